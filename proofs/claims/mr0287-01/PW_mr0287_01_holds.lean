import PyProof.Rows.All
import Wide.All
import OpenK.AllK
import Wide.FinOn
import PySem.Challenge.RW_mr0287_01
open PySem PySem.W PyProof.Rows
set_option Elab.async false
set_option maxRecDepth 100000
set_option maxHeartbeats 8000000
set_option linter.all false
namespace Mine
noncomputable def top : Program := PySem.Challenge.rw_mr0287_01.row.toRowW.prog
noncomputable def view : Program := { top with main := { top.main with body := [1, 2, 4, 5, 6, 7, 8, 10, 11, 12, 13, 14, 15, 16].filterMap (fun i => top.main.body[i]?) } }
end Mine
set_option hygiene false in
local macro_rules | `(tactic| o_head $H:term) => `(tactic| (
  refine holds_open (q := Mine.view) (loose := [PySem.Str.ofString "_NodeInfo"]) (Xt := fun s => xlAt Mine.view [] s && recOk (RowW.records PySem.Challenge.rw_mr0287_01.row.toRowW) s) (XP := XL Mine.view []) (Yf := Hook.obs $H) (Ya := Hook.val $H) (YP := Hook.says $H) (N := 2656) ?hl (Hook.of $H) (Hook.keeps $H) (fun s e => xl_of s (Bool.and_eq_true_iff.mp e).1) XL.keeps (by rfl) (by rfl) (by rfl) (fun s e => recFacts_of (Bool.and_eq_true_iff.mp e).2) (by rfl) (by first | assumption | decide +kernel) (by decide +kernel) ⟨rfl, rfl, rfl, rfl, rfl, by decide +kernel⟩ ?hw ?hc
  (case hl => intro w; kernel_rfl)))
open_top hd for PySem.Challenge.rw_mr0287_01
open PySem.Calls PySem.Spec
namespace Mine
abbrev pg : Program := PySem.Challenge.pw_mr0287_01
noncomputable abbrev Kf (w : World) : Frag := hd.heap_39 w.params

structure Gd (w : World) (mg mb : Str → Option Value) (h : Heap) : Prop where
  X : (Kf w).In h
  g : h.Ns mainGlobals mg
  b : h.Ns builtinsNs mb
  nb : ∀ x : Str, x ≠ "__name__" → mb x = bootBuiltins x
  lim : h.NoLimit

theorem kf_low (w : World) {a : Addr} {o : Obj} (e : (Kf w).lookup a = some o) : a < 181 := by
  have hm : (a, o) ∈ Kf w := List.lookup_eq_some_iff.mp e |> fun ⟨l₁, l₂, h, _⟩ => by rw [h]; simp
  have hk : ∀ p ∈ Kf w, p.1 < 181 := by
    have : ((Kf w).map (·.1)).all (fun a => Nat.blt a 181) = true := by with_unfolding_all rfl
    intro p hp
    have := List.all_eq_true.mp this p.1 (List.mem_map_of_mem hp)
    exact Nat.le_of_ble_eq_true this
  exact hk _ hm

theorem Gd.keeps {w : World} {mg mb : Str → Option Value} {h h' : Heap} (G : Gd w mg mb h) (hk : ∀ b o, b < 181 → h.get? b = some o → h'.get? b = some o) : Gd w mg mb h' where
  X := fun a o e => hk a o (kf_low w e) (G.X a o e)
  g := let ⟨o, es, ep, ho, r⟩ := G.g; ⟨o, es, ep, hk _ _ (by decide) ho, r⟩
  b := let ⟨o, es, ep, ho, r⟩ := G.b; ⟨o, es, ep, hk _ _ (by decide) ho, r⟩
  nb := G.nb
  lim := let ⟨mc, ⟨o, es, ep, ho, r⟩, q⟩ := G.lim; ⟨mc, ⟨o, es, ep, hk _ _ (by decide) ho, r⟩, q⟩
end Mine

namespace Mine
theorem ar0 {y0 : Nat} (h0 : (y0 ≤ (1000 : Nat))) : ((y0 + (1 : Nat)) ≤ (16777216 : Nat)) := by omega
theorem ar1 {y0 : Nat} (h0 : (y0 ≤ (1000 : Nat))) : (y0 ≤ (16777216 : Nat)) := by omega
theorem ar2 {y0 : Nat} {y1 : Nat} (h0 : ((y0 + (20 : Nat)) < y1)) : ((y0 + (12 : Nat)) < y1) := by omega
theorem ar3 {y0 : Nat} {y1 : Nat} (h0 : ((y0 + (20 : Nat)) < y1)) : (y0 < y1) := by omega
theorem ar4 {y0 : Nat} {y1 : Nat} {y2 : Nat} (h0 : ((y0 + (y1 + (1 : Nat))) = y2)) : (((y0 + (1 : Nat)) + y1) = y2) := by omega
theorem ar5 {y0 : Nat} {y1 : Nat} {y2 : Nat} (h0 : ((y0 + (y1 + (1 : Nat))) = y2)) : (((y2 - (1 : Nat)) - ((y1 + (1 : Nat)) - (1 : Nat))) = y0) := by omega
theorem ar6 {y0 : Nat} {y1 : Nat} (h0 : ((y0 + (0 : Nat)) = y1)) : (y0 = y1) := by omega
theorem ar7 {y0 : Nat} {y1 : Nat} {y2 : Nat} (h0 : (y0 ≤ (80 : Nat))) (h1 : ((y1 + y2) ≤ y0)) : (((y1 : Nat) : Int) < (9223372036854775808 : Int)) := by omega
theorem ar8 {y0 : Nat}  : ((Int.toNat ((-(1 : Int)) + (((y0 + (1 : Nat)) : Nat) : Int))) = y0) := by omega
theorem ar9 {y0 : Nat}  : ((-(((y0 + (1 : Nat)) : Nat) : Int)) ≤ (-(1 : Int))) := by omega
theorem ar10 {y0 : Nat} {y1 : Nat} {y2 : Nat} {y3 : Nat} (h0 : ((y0 + (y1 - y2)) ≤ y3)) (h1 : (y2 < y1)) : (((y0 + (y1 - (y2 + (1 : Nat)))) + (1 : Nat)) ≤ y3) := by omega
theorem ar11 {y0 : Nat} {y1 : Nat} {y2 : Nat} {y3 : Nat} (h0 : (y0 ≤ (80 : Nat))) (h1 : (((y1 + y2) + y3) ≤ y0)) : (y1 ≤ (1000 : Nat)) := by omega
theorem ar12 {y0 : Int} {y1 : Int} (h0 : (y0 < y1)) : (¬ (y0 = y1)) := by omega
theorem ar13 {y0 : Nat} {y1 : Nat} {y2 : Nat} (h0 : (y0 ≤ (80 : Nat))) (h1 : (((y1 + (1 : Nat)) + y2) ≤ y0)) : ((y1 + (1 : Nat)) ≤ (1000 : Nat)) := by omega
theorem ar14 {y0 : Nat} {y1 : Nat} {y2 : Nat} {y3 : Nat} (h0 : ((y0 + (y1 - y2)) ≤ y3)) : (y0 ≤ y3) := by omega
theorem ar15 {y0 : Nat} {y1 : Nat} {y2 : Nat} {y3 : Nat} (h0 : (((y0 + y1) + y2) ≤ y3)) : ((y0 + y2) ≤ y3) := by omega
theorem ar16 {y0 : Nat} {y1 : Nat}  : (((y0 + y1) + (1 : Nat)) = ((y1 + (1 : Nat)) + y0)) := by omega
theorem ar17 {y0 : Nat} {y1 : Nat} {y2 : Nat} {y3 : Nat} {y4 : Nat} {y5 : Nat} (h0 : ((((y0 + y1) + (1 : Nat)) = y2) ∧ ((y3 + (1 : Nat)) = y4))) : ((((((y5 + (1 : Nat)) + y0) + y1) + (1 : Nat)) = ((y5 + (1 : Nat)) + y2)) ∧ (((y3 + (1 : Nat)) + (1 : Nat)) = (y4 + (1 : Nat)))) := by omega
theorem ar18 {y0 : Int}  : (((0 : Int) ≤ (y0 % (1000000 : Int))) ∧ ((y0 % (1000000 : Int)) < (1000000 : Int))) := by omega
theorem ar19 {y0 : Nat} (h0 : (y0 ≤ (63 : Nat))) : (y0 ≤ (1000 : Nat)) := by omega
theorem ar20 {y0 : Nat}  : ((min (63 : Nat) y0) ≤ (1000 : Nat)) := by omega
theorem ar21 {y0 : Nat}  : ((min (63 : Nat) y0) ≤ (63 : Nat)) := by omega
theorem ar22 {y0 : Nat}  : (((min (63 : Nat) y0) + (6 : Nat)) ≤ (16777216 : Nat)) := by omega
theorem ar23 {y0 : Nat}  : (((min (63 : Nat) y0) + (6 : Nat)) ≤ (1000 : Nat)) := by omega
theorem ar24 {y0 : Nat} (h0 : (y0 < (12 : Nat))) : (((0 : Int) ≤ ((y0 : Nat) : Int)) ∧ (((y0 : Nat) : Int) ≤ (11 : Int))) := by omega
theorem ar25 {y0 : Nat} {y1 : Nat} (h0 : (y0 = (12 : Nat))) (h1 : (y1 < (12 : Nat))) : (y1 < y0) := by omega
theorem ar26 {y0 : Nat} {y1 : Nat} (h0 : (y0 = (12 : Nat))) (h1 : (¬ (y1 < (12 : Nat)))) : (y0 ≤ y1) := by omega
theorem ar27 {y0 : Nat}  : ((0 : Int) ≤ ((2 : Int) * ((y0 : Nat) : Int))) := by omega
theorem ar28 {y0 : Nat} (h0 : (y0 < (3 : Nat))) : (((2 : Int) * ((y0 : Nat) : Int)) < (9223372036854775808 : Int)) := by omega
theorem ar29 {y0 : Nat}  : ((Int.toNat ((2 : Int) * ((y0 : Nat) : Int))) = ((2 : Nat) * y0)) := by omega
theorem ar30 {y0 : Nat}  : ((0 : Int) ≤ (((2 : Int) * ((y0 : Nat) : Int)) + (1 : Int))) := by omega
theorem ar31 {y0 : Nat} (h0 : (y0 < (3 : Nat))) : ((((2 : Int) * ((y0 : Nat) : Int)) + (1 : Int)) < (9223372036854775808 : Int)) := by omega
theorem ar32 {y0 : Nat}  : ((Int.toNat (((2 : Int) * ((y0 : Nat) : Int)) + (1 : Int))) = (((2 : Nat) * y0) + (1 : Nat))) := by omega
theorem ar33 {y0 : Nat} {y1 : Nat} (h0 : (y0 < y1)) : (y0 < y1) := by omega
theorem ar34 {y0 : Nat} (h0 : (y0 ≤ (10 : Nat))) : (y0 ≤ (1000 : Nat)) := by omega
theorem ar35 {y0 : Nat} {y1 : Nat} (h0 : ((y0 + (200 : Nat)) < y1)) : (((y0 + (3 : Nat)) + (64 : Nat)) < y1) := by omega
theorem ar36 {y0 : Nat} {y1 : Nat} (h0 : (y0 ≤ (10 : Nat))) : ((min y1 y0) ≤ (10 : Nat)) := by omega
theorem ar37 {y0 : Nat} (h0 : (y0 ≤ (10 : Nat))) : (((y0 : Nat) : Int) < (9223372036854775808 : Int)) := by omega
theorem ar38 {y0 : Nat}  : ((((y0 : Nat) : Int) + (1 : Int)) = ((0 : Int) + (((y0 + (1 : Nat)) : Nat) : Int))) := by omega
theorem ar39 {y0 : Nat} (h0 : (y0 ≤ (10 : Nat))) : ((y0 + (1 : Nat)) ≤ (1000 : Nat)) := by omega
theorem ar40 {y0 : Nat} (h0 : (y0 ≤ (10 : Nat))) : ((y0 + (1 : Nat)) ≤ (11 : Nat)) := by omega
theorem ar41 {y0 : Nat} (h0 : ((0 : Nat) < y0)) : ((y0 - (1 : Nat)) < y0) := by omega
theorem ar42 {y0 : Nat} {y1 : Nat} (h0 : ((0 : Nat) < y0)) (h1 : (y1 = y0)) : ((-((y1 : Nat) : Int)) ≤ (-(1 : Int))) := by omega
theorem ar43 {y0 : Nat} {y1 : Nat} (h0 : (y0 = y1)) : ((Int.toNat ((-(1 : Int)) + ((y0 : Nat) : Int))) = (y1 - (1 : Nat))) := by omega
theorem ar44 {y0 : Nat}  : ((-(18446744073709551616 : Int)) < ((1 : Int) + ((y0 : Nat) : Int))) := by omega
theorem ar45 {y0 : Nat} (h0 : (y0 < (12 : Nat))) : (((1 : Int) + ((y0 : Nat) : Int)) < (18446744073709551616 : Int)) := by omega
theorem ar46 {y0 : Nat} (h0 : (y0 ≤ (11 : Nat))) : (y0 ≤ (16777216 : Nat)) := by omega
theorem ar47 {y0 : Nat} {y1 : Nat} (h0 : (y0 ≤ (11 : Nat))) (h1 : (y1 = (12 : Nat))) : ((y0 + y1) ≤ ((16777216 : Nat) + (1 : Nat))) := by omega
theorem ar48 {y0 : Nat} (h0 : (y0 ≤ (11 : Nat))) : (¬ ((y0 + (12 : Nat)) > (16777216 : Nat))) := by omega
theorem ar49 {y0 : Nat} (h0 : (y0 ≤ (11 : Nat))) : ((y0 + (12 : Nat)) ≤ (1000 : Nat)) := by omega
theorem ar50 {y0 : Nat} (h0 : (y0 ≤ (11 : Nat))) : ((y0 + (0 : Nat)) ≤ (1000 : Nat)) := by omega
theorem ar51 {y0 : Nat}  : ((min (13 : Nat) y0) ≤ (100 : Nat)) := by omega
theorem ar52 {y0 : Nat} {y1 : Nat} (h0 : ((y0 + (5 : Nat)) < y1)) : (y0 < y1) := by omega
theorem ar53 {y0 : Nat} (h0 : (y0 ≤ (100 : Nat))) : (y0 ≤ (1000 : Nat)) := by omega
theorem ar54 {y0 : Int} (h0 : ((0 : Int) ≤ y0)) (h1 : (¬ (y0 = (0 : Int)))) : ((0 : Int) < y0) := by omega
theorem ar55 {y0 : Nat} (h0 : (y0 ≤ (1 : Nat))) : (y0 ≤ (16777216 : Nat)) := by omega
theorem ar56 {y0 : Nat} (h0 : (y0 < (90 : Nat))) : (y0 ≤ (100 : Nat)) := by omega
theorem ar57 {y0 : Nat} {y1 : Nat} {y2 : Nat} (h0 : ((181 : Nat) ≤ y0)) (h1 : (y0 ≤ y1)) (h2 : (y1 < y2)) : ((181 : Nat) ≤ y2) := by omega
theorem ar58 {y0 : Nat} {y1 : Nat} {y2 : Nat} {y3 : Nat} (h0 : ((181 : Nat) ≤ y0)) (h1 : (y0 ≤ y1)) (h2 : (y1 < y2)) (h3 : (y2 < y3)) : ((181 : Nat) ≤ y3) := by omega
theorem ar59 {y0 : Nat} {y1 : Nat} (h0 : ((181 : Nat) ≤ y0)) (h1 : (y0 ≤ y1)) : ((181 : Nat) ≤ y1) := by omega
theorem ar60 {y0 : Nat} {y1 : Nat} {y2 : Nat} {y3 : Nat} (h0 : (y0 ≤ y1)) (h1 : (y1 < y2)) (h2 : (y2 < y3)) : (y0 ≤ y3) := by omega
theorem ar61 {y0 : Nat} (h0 : (y0 ≤ (1 : Nat))) : ((y0 + (1 : Nat)) ≤ (2 : Nat)) := by omega
theorem ar62 {y0 : Nat} {y1 : Nat} (h0 : (y0 ≤ (2 : Nat))) (h1 : (y1 ≤ (2 : Nat))) : ((max y0 y1) ≤ (2 : Nat)) := by omega
theorem ar63 {y0 : Nat} (h0 : (y0 ≤ (2 : Nat))) : ((y0 + (1 : Nat)) ≤ (64 : Nat)) := by omega
theorem ar64 {y0 : Nat} {y1 : Nat} (h0 : (y0 ≤ (6 : Nat))) (h1 : (y1 = y0)) : (y1 ≤ (1000 : Nat)) := by omega
theorem ar65 {y0 : Nat} {y1 : Nat} (h0 : ((y0 + (10 : Nat)) < y1)) : (y0 < y1) := by omega
theorem ar66 {y0 : Nat} {y1 : Nat} (h0 : ((y0 + (200 : Nat)) < y1)) : ((y0 + (64 : Nat)) < y1) := by omega
theorem ar67 {y0 : Nat} (h0 : (y0 ≤ (6 : Nat))) : (y0 ≤ (1000 : Nat)) := by omega
theorem ar68 {y0 : Nat} {y1 : Nat} (h0 : (y0 = (6 : Nat))) (h1 : (y1 < (3 : Nat))) : (((2 : Nat) * y1) < y0) := by omega
theorem ar69 {y0 : Nat} {y1 : Nat} (h0 : (y0 = (6 : Nat))) (h1 : (y1 < (3 : Nat))) : ((((2 : Nat) * y1) + (1 : Nat)) < y0) := by omega
theorem ar70 {y0 : Nat} {y1 : Nat} (h0 : ((y0 + (50 : Nat)) < y1)) : ((y0 + (10 : Nat)) < y1) := by omega
theorem ar71 {y0 : Nat} {y1 : Nat} (h0 : ((y0 + (50 : Nat)) < y1)) : ((y0 + (40 : Nat)) < y1) := by omega
theorem ar72 {y0 : Nat} (h0 : (y0 = (12 : Nat))) : (y0 ≤ (1000 : Nat)) := by omega
theorem ar73 {y0 : Nat} (h0 : (y0 = (12 : Nat))) : (y0 < (64 : Nat)) := by omega
theorem ar74 {y0 : Int} (h0 : (((0 : Int) ≤ y0) ∧ (y0 ≤ (11 : Int)))) : ((Int.toNat y0) < (12 : Nat)) := by omega
theorem ar75 {y0 : Int} (h0 : (((0 : Int) ≤ y0) ∧ (y0 ≤ (11 : Int)))) : (y0 < (9223372036854775808 : Int)) := by omega
theorem ar76 {y0 : Nat} {y1 : Nat} (h0 : ((y0 + (12 : Nat)) < y1)) : ((((y0 + (0 : Nat)) + (1 : Nat)) + (6 : Nat)) < y1) := by omega
theorem ar77 {y0 : Nat} {y1 : Nat} (h0 : ((y0 + (12 : Nat)) < y1)) : ((y0 + (8 : Nat)) < y1) := by omega
theorem ar78 {y0 : Nat} {y1 : Nat} (h0 : ((y0 + (4 : Nat)) < y1)) : (y0 < y1) := by omega
theorem ar79 {y0 : Nat} {y1 : Nat} (h0 : ((y0 + (4 : Nat)) < y1)) : (((y0 + (1 : Nat)) + (1 : Nat)) < y1) := by omega
theorem ar80 {y0 : Nat} (h0 : (y0 ≤ (100 : Nat))) : (y0 ≤ (16777216 : Nat)) := by omega
theorem ar81 {y0 : Nat} {y1 : Nat} {y2 : Nat} (h0 : (y0 ≤ y1)) (h1 : (y0 > y2)) : (y2 < y1) := by omega
theorem ar82 {y0 : Nat} {y1 : Nat} {y2 : Nat} {y3 : Nat} {y4 : Nat} (h0 : (y0 < y1)) (h1 : (y1 < y2)) (h2 : (y3 ≤ y0)) (h3 : (y3 > y4)) : (y4 < y2) := by omega
theorem ar83 {y0 : Nat} {y1 : Nat} {y2 : Nat} {y3 : Nat} (h0 : (y0 < y1)) (h1 : (y2 ≤ y0)) (h2 : (y2 > y3)) : (y3 < y1) := by omega
theorem ar84 {y0 : Nat} {y1 : Nat} {y2 : Nat} (h0 : (y0 ≤ y1)) (h1 : (y2 < y0)) : (y2 ≤ y1) := by omega
theorem ar85 {y0 : Int} (h0 : ((0 : Int) ≤ y0)) (h1 : (y0 ≠ (0 : Int))) : (((0 : Int) ≤ (y0 - (1 : Int))) ∧ ((y0 - (1 : Int)) < y0)) := by omega
theorem ar86 {y0 : Int} (h0 : ((0 : Int) ≤ y0)) (h1 : (y0 ≠ (0 : Int))) : ((0 : Int) < y0) := by omega
theorem ar87 {y0 : Int} (h0 : ((0 : Int) < y0)) : ((0 : Int) ≤ (y0 - (1 : Int))) := by omega
theorem ar88 {y0 : Int} {y1 : Int} (h0 : (y0 < y1)) : (y0 ≤ (y1 - (1 : Int))) := by omega
theorem ar89 {y0 : Int} {y1 : Int} (h0 : (y0 ≤ (y1 - (1 : Int)))) : (y0 < y1) := by omega
theorem ar90 {y0 : Nat} {y1 : Nat} {y2 : Nat} (h0 : (y0 < y1)) (h1 : (y2 = y1)) : (y0 < y2) := by omega
theorem ar91 {y0 : Nat} {y1 : Nat} (h0 : ((y0 + (10 : Nat)) < y1)) : (((y0 + (1 : Nat)) + (5 : Nat)) < y1) := by omega
theorem ar92 {y0 : Nat}  : ((0 : Int) ≤ ((y0 : Nat) : Int)) := by omega
theorem ar93 {y0 : Nat} (h0 : (y0 ≤ (2 : Nat))) : (y0 ≤ (1000 : Nat)) := by omega
theorem ar94 {y0 : Int} {y1 : Nat} (h0 : (((0 : Int) ≤ y0) ∧ (y0 < ((y1 : Nat) : Int)))) : ((Int.toNat y0) < y1) := by omega
theorem ar95 {y0 : Nat} {y1 : Int} (h0 : (y0 < (12 : Nat))) (h1 : (((0 : Int) ≤ y1) ∧ (y1 < ((y0 : Nat) : Int)))) : (y1 < (9223372036854775808 : Int)) := by omega
theorem ar96 {y0 : Nat} {y1 : Nat} (h0 : (y0 < (12 : Nat))) (h1 : (y1 = y0)) : (y1 ≤ (16777216 : Nat)) := by omega
theorem ar97 {y0 : Nat} {y1 : Nat} (h0 : (y0 ≤ (1 : Nat))) (h1 : (y1 ≤ (1 : Nat))) : ((y0 + y1) ≤ (2 : Nat)) := by omega
theorem ar98 {y0 : Nat}  : (y0 ≤ (y0 + (1 : Nat))) := by omega
theorem ar99 {y0 : Nat} {y1 : Nat} {y2 : Nat} {y3 : Nat} {y4 : Nat} (h0 : (y0 ≤ (y1 + y2))) (h1 : (y1 = y3)) (h2 : (y3 ≤ (y4 + (1 : Nat)))) : (y0 ≤ (y4 + (y2 + (1 : Nat)))) := by omega
theorem ar100 {y0 : Nat} {y1 : Nat} {y2 : Nat} {y3 : Nat} {y4 : Nat} (h0 : (y0 ≤ (y1 + y2))) (h1 : (y1 = y3)) (h2 : (y3 ≤ (y4 + (1 : Nat)))) : (y0 ≤ ((y4 + (1 : Nat)) + y2)) := by omega
theorem ar101 {y0 : Nat} {y1 : Nat} (h0 : (y0 ≤ y1)) : (y0 ≤ y1) := by omega
theorem ar102 {y0 : Nat} {y1 : Nat} (h0 : (y0 ≤ y1)) : (y0 ≤ (y1 + (1 : Nat))) := by omega
theorem ar103 {y0 : Nat} {y1 : Nat} {y2 : Nat} (h0 : (y0 ≤ ((y1 + (1 : Nat)) + y2))) : (y0 ≤ (y1 + (y2 + (1 : Nat)))) := by omega
theorem ar104 {y0 : Nat} {y1 : Nat} {y2 : Nat} {y3 : Nat} (h0 : (y0 ≤ ((y1 + (1 : Nat)) + y2))) (h1 : (y2 ≤ (2 : Nat))) (h2 : (y1 ≤ ((3 : Nat) * y3))) : (y0 ≤ ((3 : Nat) * (y3 + (1 : Nat)))) := by omega
theorem ar105 {y0 : Nat} {y1 : Nat} {y2 : Nat} (h0 : (y0 ≤ (((2 : Nat) * y1) + y2))) (h1 : (y2 ≤ (2 : Nat))) : (y0 ≤ ((2 : Nat) * (y1 + (1 : Nat)))) := by omega
theorem ar106 {y0 : Nat} {y1 : Nat} (h0 : ((y0 + (2 : Nat)) ≤ y1)) : ((y0 + (1 : Nat)) < y1) := by omega
theorem ar107 {y0 : Nat} {y1 : Nat} (h0 : (y0 ≤ (100 : Nat))) (h1 : (y1 = y0)) : (y1 ≤ (100 : Nat)) := by omega
theorem ar108 {y0 : Int} {y1 : Nat}  : (((y0 + ((y1 : Nat) : Int)) + (1 : Int)) = (y0 + (((y1 + (1 : Nat)) : Nat) : Int))) := by omega
theorem ar109 {y0 : Nat} {y1 : Nat} {y2 : Nat} (h0 : ((y0 + y1) = y2)) (h1 : (y1 < y2)) : ((y0 - (1 : Nat)) < y0) := by omega
theorem ar110 {y0 : Nat} {y1 : Nat} {y2 : Nat} (h0 : ((y0 + y1) = y2)) (h1 : (y1 < y2)) : (((y0 - (1 : Nat)) + (y1 + (1 : Nat))) = y2) := by omega
theorem ar111 {y0 : Nat} {y1 : Nat} {y2 : Nat} {y3 : Nat} {y4 : Nat} (h0 : (y0 ≤ ((100 : Nat) + ((100 : Nat) * y1)))) (h1 : (y2 ≤ (y0 + y3))) (h2 : (y3 = y4)) (h3 : (y4 ≤ (100 : Nat))) : (y2 ≤ ((100 : Nat) + ((100 : Nat) * (y1 + (1 : Nat))))) := by omega
theorem ar112 {y0 : Nat} {y1 : Nat} {y2 : Nat} (h0 : (y0 ≤ (y1 + y2))) : ((y0 + (1 : Nat)) ≤ (y1 + (y2 + (1 : Nat)))) := by omega
theorem ar113 {y0 : Nat} {y1 : Nat} {y2 : Nat} (h0 : (y0 ≤ (y1 + y2))) : (y0 ≤ (y1 + (y2 + (1 : Nat)))) := by omega
theorem ar114 {y0 : Nat}  : (y0 ≤ (y0 + (0 : Nat))) := by omega
theorem ar115 {y0 : Int}  : ((y0 + (((0 : Nat) : Nat) : Int)) = y0) := by omega
theorem ar116 {y0 : Nat} (h0 : (y0 ≤ (100 : Nat))) : (y0 ≤ ((100 : Nat) + ((100 : Nat) * (0 : Nat)))) := by omega
theorem ar117 {y0 : Nat} {y1 : Nat} {y2 : Nat} (h0 : (y0 = y1)) (h1 : (y0 ≤ y2)) : (y1 ≤ y2) := by omega
theorem ar118 {y0 : Int}  : ((y0 + ((((0 : Nat) : Nat) : Int) * (1 : Int))) = y0) := by omega
theorem ar119 {y0 : Nat}  : ((((y0 : Nat) : Int) - (((0 : Nat) : Nat) : Int)) = ((y0 : Nat) : Int)) := by omega
theorem ar120 {y0 : Nat} {y1 : Nat} (h0 : (y0 ≤ y1)) : (((0 : Nat) + y0) ≤ y1) := by omega
theorem ar121 {y0 : Nat} {y1 : Nat} {y2 : Nat} (h0 : ((y0 + (1 : Nat)) ≤ y1)) : ((y2 + y0) < (y2 + y1)) := by omega
theorem ar122 {y0 : Nat} {y1 : Nat} {y2 : Nat} (h0 : (y0 ≤ (80 : Nat))) (h1 : ((y1 + y2) ≤ y0)) : ((y1 + (1 : Nat)) < (4096 : Nat)) := by omega
theorem ar123 {y0 : Nat} {y1 : Nat} {y2 : Nat} (h0 : (y0 ≤ (80 : Nat))) (h1 : ((y1 + y2) ≤ y0)) : (y1 ≤ (80 : Nat)) := by omega
theorem ar124 {y0 : Nat} (h0 : (y0 ≤ (80 : Nat))) : (y0 ≤ (16777216 : Nat)) := by omega
theorem ar125 {y0 : Nat} (h0 : (y0 ≤ (80 : Nat))) : (((y0 : Nat) : Int) < (9223372036854775808 : Int)) := by omega
theorem ar126 {y0 : Nat} {y1 : Nat} {y2 : Nat} {y3 : Nat} (h0 : ((y0 + y1) ≤ y2)) (h1 : ((y3 + (1 : Nat)) = y1)) : (((y0 + (1 : Nat)) + y3) ≤ y2) := by omega
theorem ar127 {y0 : Nat} {y1 : Nat} {y2 : Nat} {y3 : Nat} {y4 : Nat} {y5 : Nat} {y6 : Nat} (h0 : (((y0 + y1) + (1 : Nat)) = y2)) (h1 : ((y3 + (1 : Nat)) ≤ (y4 + (y5 - y6)))) (h2 : ((y5 - y6) = y1)) : ((y0 + y3) < (y2 + y4)) := by omega
theorem ar128 {y0 : Nat} {y1 : Nat} (h0 : ((y0 + (8 : Nat)) < y1)) : (((y0 + (1 : Nat)) + (0 : Nat)) < y1) := by omega
theorem ar129 {y0 : Nat} {y1 : Nat} (h0 : (y0 ≤ (100 : Nat))) (h1 : (y1 = y0)) : (y1 < (1048576 : Nat)) := by omega
theorem ar130 {y0 : Nat} {y1 : Nat} (h0 : ((y0 + (8 : Nat)) < y1)) : ((((y0 + (1 : Nat)) + (0 : Nat)) + (5 : Nat)) < y1) := by omega
theorem ar131 {y0 : Nat} {y1 : Nat} (h0 : ((y0 + (0 : Nat)) = y1)) : (y1 ≤ y0) := by omega
theorem ar132 {y0 : Nat} {y1 : Nat} (h0 : (y0 ≤ (100 : Nat))) (h1 : (y1 = y0)) : (y1 ≤ (16777216 : Nat)) := by omega
theorem ar133 {y0 : Nat} (h0 : (y0 ≤ (100 : Nat))) : (y0 ≤ (100 : Nat)) := by omega
theorem ar134 {y0 : Nat} {y1 : Nat} {y2 : Nat} {y3 : Nat} (h0 : (y0 ≤ y1)) (h1 : (y0 = (y2 + y3))) : (((0 : Nat) + y3) ≤ y1) := by omega
theorem ar135 {y0 : Nat} {y1 : Nat} {y2 : Nat} {y3 : Nat} (h0 : (y0 ≤ y1)) (h1 : (y0 = (y2 + y3))) : (((y1 - y0) + y2) = (y1 - ((0 : Nat) + y3))) := by omega
theorem ar136 {y0 : Nat} {y1 : Nat} {y2 : Nat} (h0 : ((y0 + (y1 + (1 : Nat))) = y2)) : (y0 < y2) := by omega
theorem ar137 {y0 : Nat} {y1 : Nat}  : (((y0 + (1 : Nat)) + y1) = ((y0 + y1) + (1 : Nat))) := by omega
theorem ar138 {y0 : Nat} {y1 : Nat} {y2 : Nat} {y3 : Nat} {y4 : Nat} {y5 : Nat} {y6 : Nat} (h0 : (y0 ≤ y1)) (h1 : (y2 = y3)) (h2 : (y0 = (y3 + y4))) (h3 : ((y5 + (y6 + (1 : Nat))) = y2)) : (((y1 - (1 : Nat)) - (y6 + y4)) = ((y1 - y0) + y5)) := by omega
theorem ar139 {y0 : Nat}  : (((0 : Nat) + y0) = y0) := by omega
theorem ar140 {y0 : Nat} {y1 : Nat} (h0 : (y0 ≤ (2 : Nat))) (h1 : (y1 = y0)) : (y1 ≤ (2 : Nat)) := by omega
theorem ar141 {y0 : Nat} (h0 : (y0 ≤ (2 : Nat))) : (y0 ≤ (16777216 : Nat)) := by omega
theorem ar142 {y0 : Nat} {y1 : Nat} (h0 : ((y0 + (5 : Nat)) < y1)) : (((y0 + (1 : Nat)) + (4 : Nat)) < y1) := by omega
theorem ar143 {y0 : Nat} (h0 : (y0 ≤ (80 : Nat))) : (y0 < (90 : Nat)) := by omega
theorem ar144 {y0 : Nat} (h0 : (y0 ≤ (2 : Nat))) : (((y0 : Nat) : Int) < (9223372036854775808 : Int)) := by omega
theorem ar145 {y0 : Nat} {y1 : Nat} {y2 : Nat} (h0 : (y0 ≤ (2 : Nat))) (h1 : (y1 ≤ ((81 : Nat) + y2))) (h2 : (y2 < y0)) : (y1 < (90 : Nat)) := by omega
theorem ar146 {y0 : Nat} {y1 : Nat} {y2 : Nat} (h0 : (y0 ≤ ((81 : Nat) + y1))) (h1 : (y2 ≤ (y0 + (1 : Nat)))) : (y2 ≤ ((81 : Nat) + (y1 + (1 : Nat)))) := by omega
theorem ar147 {y0 : Nat} {y1 : Nat} (h0 : (y0 ≤ ((900 : Nat) + y1))) : ((y0 + (1 : Nat)) ≤ ((900 : Nat) + (y1 + (1 : Nat)))) := by omega
theorem ar148 {y0 : Nat} {y1 : Nat} (h0 : (y0 ≤ ((900 : Nat) + y1))) : (y0 ≤ ((900 : Nat) + (y1 + (1 : Nat)))) := by omega
theorem ar149 {y0 : Nat} {y1 : Nat} (h0 : (y0 ≤ (80 : Nat))) (h1 : (y1 ≤ (y0 + (1 : Nat)))) : (y1 ≤ ((81 : Nat) + (0 : Nat))) := by omega
theorem ar150 {y0 : Nat} {y1 : Nat} {y2 : Nat} (h0 : (((y0 - (1 : Nat)) - y1) ≤ y2)) : (((y0 - (1 : Nat)) - (y1 + (1 : Nat))) ≤ y2) := by omega
theorem ar151 {y0 : Nat} {y1 : Nat} {y2 : Nat} (h0 : (((y0 - (1 : Nat)) - y1) ≤ y2)) : (((y0 - (y1 + (1 : Nat))) + (y2 - (y0 - (y1 + (1 : Nat))))) = y2) := by omega
theorem ar152 {y0 : Nat} {y1 : Nat}  : (((y0 - (1 : Nat)) - y1) = ((y0 - (y1 + (1 : Nat))) + (0 : Nat))) := by omega
theorem ar153 {y0 : Nat} (h0 : ((0 : Nat) < y0)) : (y0 = ((y0 - (1 : Nat)) + (1 : Nat))) := by omega
theorem ar154 {y0 : Nat} {y1 : Nat} (h0 : ((y0 + (1 : Nat)) < y1)) : (y0 < y1) := by omega
theorem ar155 {y0 : Nat} {y1 : Nat} {y2 : Nat} (h0 : ((y0 + (1 : Nat)) < y1)) : (((y1 - (y0 + (1 : Nat))) + y2) = ((y1 - ((y0 + (1 : Nat)) + (1 : Nat))) + (y2 + (1 : Nat)))) := by omega
theorem ar156 {y0 : Nat} {y1 : Nat} {y2 : Nat} (h0 : ((y0 + (10 : Nat)) < y1)) (h1 : (y2 < (10 : Nat))) : (((y0 + (1 : Nat)) + y2) < y1) := by omega
theorem ar157 {y0 : Nat} {y1 : Nat} (h0 : (y0 = (y1 + (1 : Nat)))) : ((y0 - (1 : Nat)) < y0) := by omega
theorem ar158 {y0 : Nat} {y1 : Nat} {y2 : Nat} (h0 : (y0 = (y1 + (1 : Nat)))) (h1 : (y2 = y0)) : ((-((y2 : Nat) : Int)) ≤ (-(1 : Int))) := by omega
theorem ar159 {y0 : Nat} {y1 : Nat} {y2 : Nat} (h0 : (y0 < (12 : Nat))) (h1 : (y1 = (y0 + (1 : Nat)))) (h2 : (y2 = y1)) : (y2 ≤ (16777216 : Nat)) := by omega
theorem ar160 {y0 : Nat} {y1 : Nat} (h0 : (y0 < (12 : Nat))) (h1 : (y1 = (y0 + (1 : Nat)))) : ((((y1 + (1 : Nat)) : Nat) : Int) < (9223372036854775808 : Int)) := by omega
theorem ar161 {y0 : Nat} (h0 : (y0 < (12 : Nat))) : (((12 : Nat) - y0) = (((12 : Nat) - (y0 + (1 : Nat))) + (1 : Nat))) := by omega
theorem ar162 {y0 : Nat} (h0 : (y0 < (12 : Nat))) : (y0 = (((12 : Nat) - (1 : Nat)) - (((12 : Nat) - y0) - (1 : Nat)))) := by omega
theorem ar163 {y0 : Nat}  : (((((y0 + (1 : Nat)) + (1 : Nat)) : Nat) : Int) = (((y0 : Nat) : Int) + (2 : Int))) := by omega
theorem ar164 {y0 : Nat} (h0 : (y0 = (11 : Nat))) : (y0 ≤ (98 : Nat)) := by omega
theorem ar165 {y0 : Nat} (h0 : (¬ (y0 = (11 : Nat)))) : (¬ ((((y0 : Nat) : Int) + (2 : Int)) = (13 : Int))) := by omega
theorem ar166 {y0 : Nat} {y1 : Nat} (h0 : ((y0 + y1) = (12 : Nat))) (h1 : (y1 < (12 : Nat))) : ((y0 - (1 : Nat)) < y0) := by omega
theorem ar167 {y0 : Nat} {y1 : Nat} (h0 : ((y0 + y1) = (12 : Nat))) (h1 : (y1 < (12 : Nat))) : (((y0 - (1 : Nat)) + (y1 + (1 : Nat))) = (12 : Nat)) := by omega
theorem ar168 {y0 : Nat} (h0 : (y0 < (12 : Nat))) (h1 : (¬ (y0 = (11 : Nat)))) : ((y0 + (1 : Nat)) < (12 : Nat)) := by omega
theorem ar169 {y0 : Nat} (h0 : (y0 = (0 : Nat))) : (y0 = (((12 : Nat) - (1 : Nat)) - (((12 : Nat) - y0) - (1 : Nat)))) := by omega
theorem ar170 {y0 : Nat} (h0 : (y0 < (12 : Nat))) (h1 : (¬ (y0 = (11 : Nat)))) : ((0 : Nat) < ((((12 : Nat) - (y0 + (1 : Nat))) + (1 : Nat)) - (1 : Nat))) := by omega
theorem ar171 {y0 : Nat} (h0 : (y0 < (12 : Nat))) : (y0 = ((12 : Nat) - ((12 : Nat) - y0))) := by omega
theorem ar172 {y0 : Nat} {y1 : Nat} (h0 : (y0 < (12 : Nat))) (h1 : (y1 = (y0 + (1 : Nat)))) : (y1 ≤ (100 : Nat)) := by omega
theorem ar173 {y0 : Nat} (h0 : (y0 < (1048576 : Nat))) : (((y0 : Nat) : Int) < (9223372036854775808 : Int)) := by omega
theorem ar174 {y0 : Nat} {y1 : Nat} {y2 : Nat} (h0 : (y0 ≤ (1000 : Nat))) (h1 : (((y1 + (1 : Nat)) + y2) = y0)) : (y1 ≤ (16777216 : Nat)) := by omega
theorem ar175 {y0 : Nat} {y1 : Nat} {y2 : Nat} (h0 : (y0 ≤ (1000 : Nat))) (h1 : (((y1 + (1 : Nat)) + y2) = y0)) : ((y1 + (1 : Nat)) ≤ ((16777216 : Nat) + (1 : Nat))) := by omega
theorem ar176 {y0 : Nat} {y1 : Nat} (h0 : (y0 ≤ (1000 : Nat))) (h1 : (y1 = y0)) : (y1 ≤ (1000 : Nat)) := by omega
theorem ar177 {y0 : Nat} (h0 : (y0 ≤ (1000 : Nat))) : (((y0 : Nat) : Int) < (9223372036854775808 : Int)) := by omega
theorem ar178 {y0 : Nat}  : ((y0 + (0 : Nat)) = y0) := by omega
theorem ar179 {y0 : Nat} {y1 : Nat} {y2 : Nat} (h0 : (y0 ≤ (1000 : Nat))) (h1 : ((y1 + y2) = y0)) : (y2 ≤ (16777216 : Nat)) := by omega
theorem ar180 {y0 : Nat} {y1 : Nat} {y2 : Nat} (h0 : ((y0 + y1) = y2)) (h1 : (¬ (y1 < y2))) : (y1 = y2) := by omega
theorem ar181 {y0 : Nat} (h0 : (y0 ≤ (4 : Nat))) : (y0 ≤ (100 : Nat)) := by omega
theorem ar182 {y0 : Nat}  : ((y0 = (0 : Nat)) → ((0 : Int) = ((y0 : Nat) : Int))) := by omega
theorem ar183 {y0 : Nat} {y1 : Nat} (h0 : (y0 < y1)) : ((0 : Int) < (((y1 : Nat) : Int) - ((y0 : Nat) : Int))) := by omega
theorem ar184 {y0 : Nat} {y1 : Nat}  : (((((y0 : Nat) : Int) - ((y1 : Nat) : Int)) - (1 : Int)) = (((y0 : Nat) : Int) - (((y1 + (1 : Nat)) : Nat) : Int))) := by omega
theorem ar185 {y0 : Nat}  : ((((y0 : Nat) : Int) - ((y0 : Nat) : Int)) ≤ (0 : Int)) := by omega
theorem ar186 {y0 : Nat} {y1 : Nat} (h0 : ((y0 + (60 : Nat)) < y1)) : (y0 < y1) := by omega
theorem ar187 {y0 : Nat} {y1 : Nat} {y2 : Nat} (h0 : ((y0 + (60 : Nat)) < y1)) (h1 : (y2 < (59 : Nat))) : (((y0 + (1 : Nat)) + y2) < y1) := by omega
theorem ar188 {y0 : Nat} {y1 : Nat} (h0 : ((y0 + (210 : Nat)) < y1)) : (((y0 + (3 : Nat)) + (200 : Nat)) < y1) := by omega
theorem ar189 {y0 : Nat} (h0 : (y0 ≤ (4 : Nat))) : (y0 ≤ (10 : Nat)) := by omega
theorem ar190 {y0 : Nat} {y1 : Nat} {y2 : Nat} (h0 : (y0 ≤ (1000 : Nat))) (h1 : (y1 < y2)) (h2 : (y2 = y0)) : (((y1 : Nat) : Int) < ((9223372036854775808 : Int) - (1 : Int))) := by omega
theorem ar191 {y0 : Nat}  : (¬ ((y0 + (1 : Nat)) < y0)) := by omega
theorem ar192 {y0 : Nat} {y1 : Nat} (h0 : ((y0 + (6 : Nat)) < y1)) : (y0 < y1) := by omega
theorem ar193 {y0 : Nat} {y1 : Nat} (h0 : ((y0 + (6 : Nat)) < y1)) : (((y0 + (1 : Nat)) + (5 : Nat)) < y1) := by omega
theorem ar194 {y0 : Nat} {y1 : Nat} (h0 : ((y0 + (40 : Nat)) < y1)) : (y0 < y1) := by omega
theorem ar195 {y0 : Nat} {y1 : Nat} (h0 : ((y0 + (40 : Nat)) < y1)) : (((y0 + (1 : Nat)) + (1 : Nat)) < y1) := by omega
theorem ar196 {y0 : Nat} {y1 : Nat} (h0 : ((y0 + (40 : Nat)) < y1)) : (((y0 + (1 : Nat)) + (5 : Nat)) < y1) := by omega
theorem ar197 {y0 : Nat} (h0 : (y0 < (12 : Nat))) : ((0 : Int) ≤ ((11 : Int) - ((y0 : Nat) : Int))) := by omega
theorem ar198 {y0 : Nat} {y1 : Nat} (h0 : (y0 < (12 : Nat))) (h1 : (y1 ≤ ((3 : Nat) * y0))) : (y1 ≤ (80 : Nat)) := by omega
theorem ar199 {y0 : Nat} {y1 : Nat} (h0 : (y0 < (12 : Nat))) (h1 : (y1 ≤ ((2 : Nat) * y0))) : (y1 ≤ (900 : Nat)) := by omega
theorem ar200 {y0 : Nat} {y1 : Nat} {y2 : Nat} (h0 : ((y0 + (40 : Nat)) < y1)) (h1 : (y2 < (40 : Nat))) : (((y0 + (1 : Nat)) + y2) < y1) := by omega
theorem ar201 {y0 : Nat} (h0 : (y0 ≤ ((3 : Nat) * (12 : Nat)))) : (y0 ≤ (80 : Nat)) := by omega
theorem ar202 {y0 : Int} (h0 : (((0 : Int) < y0) ∧ (y0 < (2000 : Int)))) : (¬ (y0 = (0 : Int))) := by omega
theorem ar203 {y0 : Int}  : (((0 : Int) ≤ (y0 % (6 : Int))) ∧ ((y0 % (6 : Int)) < (6 : Int))) := by omega
theorem ar204 {y0 : Int} {y1 : Int} (h0 : (y0 = (y1 % (6 : Int)))) : ((Int.toNat y0) < (6 : Nat)) := by omega
theorem ar205 {y0 : Int} {y1 : Int} (h0 : (y0 = (y1 % (6 : Int)))) : (y0 < (9223372036854775808 : Int)) := by omega
theorem ar206 {y0 : Int}  : (((0 : Int) ≤ (y0 % (5 : Int))) ∧ ((y0 % (5 : Int)) < (5 : Int))) := by omega
theorem ar207 {y0 : Nat} {y1 : Nat}  : (((y0 + (1 : Nat)) + y1) = (y0 + (y1 + (1 : Nat)))) := by omega
theorem ar208 {y0 : Int}  : (¬ ((((11 : Int) - (((0 : Nat) : Nat) : Int)) < y0) ∧ (y0 ≤ (11 : Int)))) := by omega
theorem ar209 {y0 : Nat}  : (¬ ((((11 : Int) - ((y0 : Nat) : Int)) < ((11 : Int) - ((y0 : Nat) : Int))) ∧ (((11 : Int) - ((y0 : Nat) : Int)) ≤ (11 : Int)))) := by omega
theorem ar210 {y0 : Nat}  : ((((11 : Int) - (((y0 + (1 : Nat)) : Nat) : Int)) < ((11 : Int) - ((y0 : Nat) : Int))) ∧ (((11 : Int) - ((y0 : Nat) : Int)) ≤ (11 : Int))) := by omega
theorem ar211 {y0 : Nat} {y1 : Int} (h0 : ((((11 : Int) - ((y0 : Nat) : Int)) < y1) ∧ (y1 ≤ (11 : Int)))) : ((((11 : Int) - (((y0 + (1 : Nat)) : Nat) : Int)) < y1) ∧ (y1 ≤ (11 : Int))) := by omega
theorem ar212 {y0 : Int} {y1 : Nat} (h0 : (¬ (y0 = ((11 : Int) - ((y1 : Nat) : Int))))) (h1 : (¬ ((((11 : Int) - ((y1 : Nat) : Int)) < y0) ∧ (y0 ≤ (11 : Int))))) : (¬ ((((11 : Int) - (((y1 + (1 : Nat)) : Nat) : Int)) < y0) ∧ (y0 ≤ (11 : Int)))) := by omega
theorem ar213 {y0 : Nat} (h0 : ((y0 + (1 : Nat)) ≤ (12 : Nat))) : (y0 ≤ (12 : Nat)) := by omega
theorem ar214 {y0 : Nat} {y1 : Int} (h0 : ((((11 : Int) - (((y0 + (1 : Nat)) : Nat) : Int)) < y1) ∧ (y1 ≤ (11 : Int)))) (h1 : (¬ (y1 = ((11 : Int) - ((y0 : Nat) : Int))))) : ((((11 : Int) - ((y0 : Nat) : Int)) < y1) ∧ (y1 ≤ (11 : Int))) := by omega
theorem ar215 {y0 : Nat} {y1 : Int} (h0 : ((y0 + (1 : Nat)) ≤ (12 : Nat))) (h1 : (y1 = ((11 : Int) - ((y0 : Nat) : Int)))) : (((0 : Int) ≤ y1) ∧ (y1 ≤ (11 : Int))) := by omega
theorem ar216 {y0 : Nat} (h0 : ((y0 + (1 : Nat)) ≤ (12 : Nat))) : ((0 : Int) ≤ ((11 : Int) - ((y0 : Nat) : Int))) := by omega
theorem ar217 {y0 : Int} {y1 : Nat} (h0 : (((0 : Int) ≤ y0) ∧ (y0 < ((11 : Int) - ((y1 : Nat) : Int))))) : (((0 : Int) ≤ y0) ∧ (y0 ≤ (11 : Int))) := by omega
theorem ar218 {y0 : Nat} {y1 : Int} {y2 : Nat} (h0 : (((y0 : Nat) : Int) ≤ y1)) (h1 : (y0 = (y2 + (1 : Nat)))) : (((y2 : Nat) : Int) ≤ (y1 - (1 : Int))) := by omega
theorem ar219 {y0 : Nat} {y1 : Int} {y2 : Nat} (h0 : (((y0 : Nat) : Int) ≤ y1)) (h1 : (y0 = (y2 + (1 : Nat)))) (h2 : ((y1 - (1 : Int)) = (0 : Int))) (h3 : ((0 : Nat) < y2)) : False := by omega
theorem ar220 {y0 : Nat} {y1 : Int} {y2 : Nat} (h0 : (((y0 : Nat) : Int) ≤ y1)) (h1 : (y0 = (y2 + (1 : Nat)))) (h2 : ((y1 - (1 : Int)) = (0 : Int))) : (y1 = (((y2 + (1 : Nat)) : Nat) : Int)) := by omega
theorem ar221 {y0 : Int} {y1 : Nat}  : (((y0 - (1 : Int)) - ((y1 : Nat) : Int)) = (y0 - (((y1 + (1 : Nat)) : Nat) : Int))) := by omega
theorem ar222 {y0 : Int} {y1 : Nat} (h0 : ((y0 - (1 : Int)) = ((y1 : Nat) : Int))) : (y0 = (((y1 + (1 : Nat)) : Nat) : Int)) := by omega
theorem ar223 {y0 : Int} {y1 : Nat} (h0 : (¬ ((y0 - (1 : Int)) = (0 : Int)))) (h1 : (y0 = (((y1 + (1 : Nat)) : Nat) : Int))) : ((0 : Nat) < y1) := by omega
theorem ar224 {y0 : Int} {y1 : Nat} (h0 : (y0 = (((y1 + (1 : Nat)) : Nat) : Int))) : ((y0 - (1 : Int)) = ((y1 : Nat) : Int)) := by omega
theorem ar225 {y0 : Nat} {y1 : Nat} {y2 : Nat} (h0 : (y0 = (y1 + y2))) : ((y0 + (1 : Nat)) = (y1 + (y2 + (1 : Nat)))) := by omega
theorem ar226 {y0 : Nat} {y1 : Nat} {y2 : Nat} (h0 : (y0 = (y1 + y2))) : (y0 = (y1 + y2)) := by omega
theorem ar227 {y0 : Nat} {y1 : Nat} {y2 : Nat} (h0 : (y0 = (y1 + y2))) : ((y0 + (1 : Nat)) = ((y1 + (1 : Nat)) + y2)) := by omega
theorem ar228 {y0 : Int} {y1 : Int} (h0 : (y0 = y1)) (h1 : (y1 < y0)) : False := by omega
theorem ar229 {y0 : Nat} {y1 : Nat}  : ((((y0 + y1) : Nat) : Int) = (((y0 : Nat) : Int) + ((y1 : Nat) : Int))) := by omega
theorem ar230 {y0 : Nat} {y1 : Nat}  : (((y0 : Nat) : Int) ≤ (((y1 : Nat) : Int) + ((y0 : Nat) : Int))) := by omega
theorem ar231 {y0 : Nat} {y1 : Nat}  : (((((y0 + y1) : Nat) : Int) - ((y1 : Nat) : Int)) = ((y0 : Nat) : Int)) := by omega
theorem ar232 {y0 : Nat} {y1 : Nat} (h0 : ((((y0 : Nat) : Int) + ((y1 : Nat) : Int)) = ((y1 : Nat) : Int))) : (y0 = (0 : Nat)) := by omega
theorem ar233 {y0 : Int} {y1 : Int} (h0 : (y0 ≤ y1)) (h1 : (¬ (y0 < y1))) : (y0 = y1) := by omega
theorem ar234 {y0 : Int} {y1 : Int} (h0 : (y0 = y1)) : (y0 ≤ y1) := by omega
theorem ar235 {y0 : Int} {y1 : Int} (h0 : (y0 = y1)) (h1 : (y0 < y1)) : False := by omega
theorem ar236 {y0 : Int} {y1 : Nat} {y2 : Int} (h0 : ((Int.toNat y0) < (y1 + (1 : Nat)))) (h1 : (y2 < y0)) (h2 : ((0 : Int) ≤ y2)) : ((Int.toNat y2) < y1) := by omega
theorem ar237 {y0 : Nat} {y1 : Nat} (h0 : (y0 ≤ y1)) (h1 : (y0 ≠ y1)) : (y0 < y1) := by omega
theorem ar238 {y0 : Nat} {y1 : Nat} {y2 : Nat} (h0 : (y0 ≤ (y1 + (1 : Nat)))) (h1 : (y2 < y0)) : (y2 ≤ y1) := by omega
theorem ar239 {y0 : Nat} {y1 : Nat} (h0 : ((y0 + (1 : Nat)) ≤ y1)) : (y0 ≤ y1) := by omega
theorem ar240 {y0 : Nat}  : ((((y0 + 1) : Nat) : Int) = (((y0 : Nat) : Int) + (1 : Int))) := by omega
theorem ar241 {y0 : Int} {y1 : Int} {y2 : Int}  : (((y0 + y1) + (y1 + y2)) = (y0 + (y1 + (y2 + y1)))) := by omega
theorem ar242 {y0 : Nat} {y1 : Nat} (h0 : (y0 ≤ y1)) : ((y0 + (y1 - y0)) = y1) := by omega
theorem ar243 {y0 : Int} {y1 : Int} {y2 : Int}  : ((y0 + (y1 + y2)) = ((y0 + y1) + y2)) := by omega
theorem ar244 {y0 : Nat} (h0 : (¬ (y0 < (6 : Nat)))) : ((6 : Nat) ≤ y0) := by omega
theorem ar245 {y0 : Nat} {y1 : Int} {y2 : Int} (h0 : (y0 < (0 : Nat))) : (y1 = y2) := by omega
theorem ar246 {y0 : Nat} {y1 : Nat} (h0 : (y0 < (y1 + (1 : Nat)))) (h1 : (¬ (y0 < y1))) : (y0 = y1) := by omega
theorem ar247 {y0 : Int} (h0 : (y0 ≤ (11 : Int))) : ((Int.toNat y0) < (12 : Nat)) := by omega
theorem ar248 {y0 : Int} {y1 : Int} (h0 : (((0 : Int) ≤ y0) ∧ (y0 < y1))) : ((Int.toNat y0) < (Int.toNat y1)) := by omega
theorem ar249 {y0 : Int} {y1 : Int} (h0 : (y0 ≤ (11 : Int))) (h1 : (((0 : Int) ≤ y1) ∧ (y1 < y0))) : ((Int.toNat y1) < (12 : Nat)) := by omega
theorem ar250 {y0 : Int} {y1 : Int} {y2 : Int} (h0 : (y0 ≤ y1)) (h1 : (((1 : Int) + y2) ≤ y0)) : (y2 < y1) := by omega
theorem ar251 {y0 : Int} {y1 : Int} (h0 : (y0 < y1)) : (((1 : Int) + y0) ≤ y1) := by omega
theorem ar252 {y0 : Int} (h0 : (((0 : Int) ≤ y0) ∧ (y0 ≤ (11 : Int)))) : ((((11 : Int) - (((12 : Nat) : Nat) : Int)) < y0) ∧ (y0 ≤ (11 : Int))) := by omega
theorem ar253 {y0 : Int} (h0 : ((((11 : Int) - (((12 : Nat) : Nat) : Int)) < y0) ∧ (y0 ≤ (11 : Int)))) : (((0 : Int) ≤ y0) ∧ (y0 ≤ (11 : Int))) := by omega
theorem ar254 {y0 : Int} {y1 : Int} (h0 : (((0 : Int) ≤ y0) ∧ (y0 ≤ (11 : Int)))) (h1 : (((0 : Int) ≤ y1) ∧ (y1 < y0))) : (((0 : Int) ≤ y1) ∧ (y1 ≤ (11 : Int))) := by omega
theorem ar255 {y0 : Nat} (h0 : (y0 ≤ ((2 : Nat) * (12 : Nat)))) : (y0 ≤ (100 : Nat)) := by omega
theorem ar256 {y0 : Nat} (h0 : (y0 ≤ ((3 : Nat) * (12 : Nat)))) : (y0 ≤ (100 : Nat)) := by omega
theorem ar257 {y0 : Nat} {y1 : Int} (h0 : (((y0 : Nat) : Int) = y1)) (h1 : (y1 = (0 : Int))) : (y0 = (0 : Nat)) := by omega
end Mine

namespace Mine

/-- what a frame knows: its locals m at L, the objects it owns, all of the entry heap g but D kept -/
structure Cx (w : World) (mg mb : Str → Option Value) (g : Heap) (L : Addr) (D : List Addr) (m : Str → Option Value) (own : List (Addr × Obj)) (h : Heap) : Prop where
  G0 : Gd w mg mb g
  low : ∀ a ∈ D, 181 ≤ a
  fr : Fr (hideAll g D) L h m
  nw : News (hideAll g D) L h own

section
variable {w : World} {mg mb : Str → Option Value} {g : Heap} {L : Addr} {D : List Addr} {m : Str → Option Value} {own : List (Addr × Obj)} {h : Heap}

theorem Cx.get (C : Cx w mg mb g L D m own h) {a : Addr} {o : Obj} (hm : (a, o) ∈ own) : h.get? a = some o := C.nw.get hm
theorem Cx.keep (C : Cx w mg mb g L D m own h) {a : Addr} {o : Obj} (hg : g.get? a = some o) (hD : a ∉ D) : h.get? a = some o := C.fr.keep _ _ (hideAll_get D hg hD)
theorem Cx.G (C : Cx w mg mb g L D m own h) : Gd w mg mb h := C.G0.keeps fun b o hb e => C.keep e fun q => absurd (C.low b q) (Nat.not_le.mpr hb)
theorem Cx.GH (C : Cx w mg mb g L D m own h) : Gd w mg mb (hideAll g D) := C.G0.keeps fun b o hb e => hideAll_get D e fun q => absurd (C.low b q) (Nat.not_le.mpr hb)
theorem Cx.ns (C : Cx w mg mb g L D m own h) : h.Ns L m := C.fr.ns
theorem Cx.above (C : Cx w mg mb g L D m own h) : g.objs.size ≤ L := by have := C.fr.above; rwa [hideAll_size] at this
theorem Cx.sub (C : Cx w mg mb g L D m own h) {own' : List (Addr × Obj)} (hs : ∀ p ∈ own', p ∈ own) : Cx w mg mb g L D m own' h := ⟨C.G0, C.low, C.fr, fun p hp => C.nw p (hs p hp)⟩
theorem Cx.of (C : Cx w mg mb g L D m own h) {m' : Str → Option Value} {own' : List (Addr × Obj)} {h' : Heap} (F : Fr (hideAll g D) L h' m') (N : News (hideAll g D) L h' own') : Cx w mg mb g L D m' own' h' := ⟨C.G0, C.low, F, N⟩

/-- a store into the frame's locals -/
theorem Cx.st (C : Cx w mg mb g L D m own h) {h' : Heap} {m' : Str → Option Value} (hn : h'.Ns L m') (hs : Heap.SameBut L h h') : Cx w mg mb g L D m' own h' := C.of (C.fr.set hn hs) (C.nw.set hs)

/-- a new object -/
theorem Cx.push (C : Cx w mg mb g L D m own h) (o : Obj) (hf : o.isFreed = false := by rfl) : Cx w mg mb g L D m ((h.objs.size, o) :: own) (h.push o) := C.of (C.fr.push o) (C.nw.push C.fr o hf)

theorem Cx.lt (C : Cx w mg mb g L D m own h) {a : Addr} {o : Obj} (hp : (a, o) ∈ own) : h.objs.size > a := Heap.lt_size (C.get hp)
theorem Cx.ne (C : Cx w mg mb g L D m own h) {a : Addr} {o : Obj} (hp : (a, o) ∈ own) : a ≠ L := (C.nw _ hp).2.1
theorem Cx.no (C : Cx w mg mb g L D m own h) {a : Addr} {o : Obj} (hp : (a, o) ∈ own) : a ∈ D ∨ g.get? a = none := by
  have := (C.nw _ hp).2.2
  by_cases hD : a ∈ D
  · exact .inl hD
  · cases q : g.get? a with
    | none => exact .inr rfl
    | some o' => rw [hideAll_get D q hD] at this; cases this

/-- any change of one owned object -/
theorem Cx.chg (C : Cx w mg mb g L D m own h) {a : Addr} {o o' : Obj} {h' : Heap} (hm : (a, o) ∈ own) (hs : Heap.SameBut a h h') (ha : h'.get? a = some o') {own' : List (Addr × Obj)}
    (hown : ∀ p ∈ own', p = (a, o') ∨ (p.1 ≠ a ∧ p ∈ own)) : Cx w mg mb g L D m own' h' := by
  have z := C.nw _ hm
  refine C.of (C.fr.change hs z.2.1 z.2.2) fun p hp => ?_
  rcases hown p hp with rfl | ⟨q, r⟩
  · exact ⟨ha, z.2⟩
  · have y := C.nw p r; exact ⟨(hs.2 p.1 q).trans y.1, y.2⟩

theorem Cx.upd (C : Cx w mg mb g L D m own h) {a : Addr} {o : Obj} {f : Obj → Obj} (hm : (a, o) ∈ own) (hf : (f o).isFreed = false) {own' : List (Addr × Obj)}
    (hown : ∀ p ∈ own', p = (a, f o) ∨ (p.1 ≠ a ∧ p ∈ own)) : Cx w mg mb g L D m own' (h.update a f) :=
  C.chg hm (Heap.SameBut.update ..) (Heap.get?_update_self f (C.get hm) hf) hown

/-- behind a call that kept all but D' -/
theorem Cx.call (C : Cx w mg mb g L D m own h) {h' : Heap} {D' : List Addr} (hk : ∀ b o, h.get? b = some o → b ∉ D' → h'.get? b = some o) (hD : ∀ a ∈ D', ∃ o, (a, o) ∈ own) {own' : List (Addr × Obj)}
    (hown : ∀ p ∈ own', (p ∈ own ∧ p.1 ∉ D') ∨ (h'.get? p.1 = some p.2 ∧ (p.1 ∈ D' ∨ h.get? p.1 = none))) : Cx w mg mb g L D m own' h' := by
  have nD : ∀ b o, (hideAll g D).get? b = some o → b ∉ D' := fun b o e q => by
    obtain ⟨o', q⟩ := hD b q
    rw [(C.nw _ q).2.2] at e; cases e
  refine C.of ⟨?_, fun b o e => hk b o (C.fr.keep b o e) (nD b o e), C.fr.above⟩ fun p hp => ?_
  · obtain ⟨oL, es, ep, hL, r⟩ := C.ns
    exact ⟨oL, es, ep, hk _ _ hL fun q => by obtain ⟨o', q⟩ := hD L q; exact C.ne q rfl, r⟩
  · rcases hown p hp with ⟨q, r⟩ | ⟨q, r | r⟩
    · have y := C.nw p q; exact ⟨hk _ _ y.1 r, y.2⟩
    · obtain ⟨o', r⟩ := hD p.1 r; have y := C.nw _ r; exact ⟨q, y.2⟩
    · refine ⟨q, fun e => ?_, ?_⟩
      · obtain ⟨oL, _, _, hL, _⟩ := C.ns
        rw [e, hL] at r; cases r
      · cases z : (hideAll g D).get? p.1 with
        | none => rfl
        | some o' => rw [C.fr.keep _ _ z] at r; cases r

theorem none_of_ge {h : Heap} {a : Addr} (e : h.objs.size ≤ a) : h.get? a = none := by
  cases q : h.get? a with
  | none => rfl
  | some o => exact absurd (Heap.lt_size q) (Nat.not_lt.mpr e)
/-- behind a call that kept all -/
theorem Cx.call0 (C : Cx w mg mb g L D m own h) {h' : Heap} (hk : ∀ b o, h.get? b = some o → h'.get? b = some o) : Cx w mg mb g L D m own h' :=
  C.call (D' := []) (fun b o e _ => hk b o e) (fun _ q => nomatch q) fun p hp => .inl ⟨hp, fun q => nomatch q⟩

/-- the start -/
theorem Cx.start {h₁ : Heap} (G : Gd w mg mb g) (hns : h₁.Ns g.objs.size m) (hk : ∀ b o, g.get? b = some o → h₁.get? b = some o) (own : List (Addr × Obj))
    (hown : ∀ p ∈ own, g.get? p.1 = some p.2 ∧ 181 ≤ p.1) : Cx w mg mb g g.objs.size (own.map (·.1)) m own h₁ where
  G0 := G
  low := fun a ha => by obtain ⟨p, hp, rfl⟩ := List.mem_map.mp ha; exact (hown p hp).2
  fr := ⟨hns, fun b o e => hk b o (of_hideAll _ e), Nat.le_of_eq (hideAll_size _ _)⟩
  nw := fun p hp => ⟨hk _ _ (hown p hp).1, Nat.ne_of_lt (Heap.lt_size (hown p hp).1), hideAll_none _ (List.mem_map_of_mem hp)⟩
theorem Cx.start0 {h₁ : Heap} (G : Gd w mg mb g) (hns : h₁.Ns g.objs.size m) (hk : ∀ b o, g.get? b = some o → h₁.get? b = some o) : Cx w mg mb g g.objs.size [] m [] h₁ :=
  Cx.start G hns hk [] fun _ q => nomatch q
end
end Mine

namespace Mine
/-- the exceptions' continuation let go -/
theorem anyE {α : Type} {M : Model} {A : Around} {t : Sem α} {Q : α → Shared → Prop} {E : Value → Shared → Prop} {s : Shared} (h : ∀ E', wpAny M A t Q E' s) : wpAny M A t Q E s := h E
/-- the continuation by a name -/
theorem absQ {α : Type} {M : Model} {A : Around} {t : Sem α} {Q : α → Shared → Prop} {E : Value → Shared → Prop} {s : Shared} (h : ∀ Q' : α → Shared → Prop, (∀ a s', Q a s' → Q' a s') → wpAny M A t Q' E s) : wpAny M A t Q E s := h Q fun _ _ q => q
theorem absQE {α : Type} {M : Model} {A : Around} {t : Sem α} {Q : α → Shared → Prop} {E : Value → Shared → Prop} {s : Shared} (h : ∀ (Q' : α → Shared → Prop) E', (∀ a s', Q a s' → Q' a s') → wpAny M A t Q' E' s) : wpAny M A t Q E s := h Q E fun _ _ q => q
/-- the state told anew: the tokens by a name -/
theorem flat {α : Type} {M : Model} {A : Around} {t : Sem α} {Q : α → Shared → Prop} {E : Value → Shared → Prop} (s : Shared) {h : Heap} {tk : Nat} (H : ∀ tk', wpAny M A t Q E { s with heap := h, toks := tk' }) : wpAny M A t Q E { s with heap := h, toks := tk } := H tk
theorem flatG {α : Type} {M : Model} {A : Around} {t : Sem α} {Q : α → Shared → Prop} {E : Value → Shared → Prop} (s : Shared) (gn : Array GenState) {h : Heap} {tk : Nat} (H : ∀ tk', wpAny M A t Q E { s with heap := h, gens := gn, toks := tk' }) : wpAny M A t Q E { s with heap := h, gens := gn, toks := tk } := H tk
/-- a for loop without else, its continuations by names -/
theorem forL {w : World} {A : Around} {R : Result → Shared → Prop} {s : Shared} {target : Expr} {it : Value} {body : List Stmt} {env : Env} (I : Nat → Shared → Prop)
    (turn : ∀ n s (J : Flow → Shared → Prop) (F : Shared → Prop) E', I n s → (∀ m s', m < n → I m s' → J .next s' ∧ J .cont s') → (∀ s', R (.ok .next) s' → F s' ∧ J .brk s') → (∀ v s', R (.ok (.ret v)) s' → J (.ret v) s') →
      wpAny (model pg w) A (pyNext it) (fun r s₁ => match r with
        | none => F s₁
        | some v => wpAny (model pg w) A (assign target env v) (fun _ s₂ => wpAny (model pg w) A (execs body env) J E' s₂) E' s₁) E' s)
    (n : Nat) (h : I n s) (ht : ∀ v, letOwnedTupleGo target it v = pure () := by intro _; rfl) : codeAny (model pg w) A (.forLoop target it body [] env) R s := by
  refine codeAny_forLoop I (fun n s hI => ?_) n h ht
  refine wpAny_mono (turn n s (fun f s₃ => match f with | .next | .cont => ∃ m, m < n ∧ I m s₃ | .brk => R (.ok .next) s₃ | .ret v => R (.ok (.ret v)) s₃) (fun s₁ => R (.ok .next) s₁) (notedBy (model pg w) A env fun e s' => R (.error e) s') hI (fun m s' hm hi => ⟨⟨m, hm, hi⟩, ⟨m, hm, hi⟩⟩) (fun s' h => ⟨h, h⟩) (fun v s' h => h)) (fun r s₁ h₁ => ?_) fun _ _ q => q
  cases r with
  | none => exact wpAny_execs_nil h₁
  | some v => exact h₁
/-- a while loop, its continuations by names -/
theorem whileL {w : World} {A : Around} {R : Result → Shared → Prop} {s : Shared} {test : Expr} {body orelse : List Stmt} {env : Env} (I : Nat → Shared → Prop)
    (turn : ∀ n s (J F : Flow → Shared → Prop) E', I n s → (∀ m s', m < n → I m s' → J .next s' ∧ J .cont s') → (∀ f s', R (.ok f) s' → F f s') → (∀ s', R (.ok .next) s' → J .brk s') → (∀ v s', R (.ok (.ret v)) s' → J (.ret v) s') →
      wpAny (model pg w) A (isTrue test env (eval test env)) (fun b s₂ => if b then wpAny (model pg w) A (execs body env) J E' s₂ else wpAny (model pg w) A (execs orelse env) F E' s₂) E' s)
    (n : Nat) (h : I n s) : codeAny (model pg w) A (.whileLoop test body orelse env) R s := by
  refine codeAny_whileLoop I (fun n s hI => ?_) n h
  exact turn n s (fun f s₃ => match f with | .next | .cont => ∃ m, m < n ∧ I m s₃ | .brk => R (.ok .next) s₃ | .ret v => R (.ok (.ret v)) s₃) (fun f s₃ => R (.ok f) s₃) (notedBy (model pg w) A env fun e s' => R (.error e) s') hI (fun m s' hm hi => ⟨⟨m, hm, hi⟩, ⟨m, hm, hi⟩⟩) (fun f s' h => h) (fun s' h => h) (fun v s' h => h)
section
variable {w : World} {mg mb : Str → Option Value} {g : Heap} {L f : Addr} {D : List Addr} {m : Str → Option Value} {own : List (Addr × Obj)} {s : Shared} {A : Around} {E : Value → Shared → Prop}
  {qn : Str} {sc : Scope} {cd : Value} {x : Str} {pos : Pos} {v : Value}

theorem enter {R : Result → Shared → Prop} {oc : Value} {od : Option Addr} {osl : Array (Option Value)} {name qual : Str} {params : Arguments} {body : List Stmt} {scope : Scope} {dV kV doc pm cdv ct : Value} {an : Option Addr} {args : Args} {binds : List (Str × Value)}
    (G : Gd w mg mb s.heap) (hroom : A.depth < recursionLimit)
    (ho : (Kf w).lookup f = some ⟨oc, od, .func (fnOf name qual params body scope dV kV doc pm an cdv ct), osl⟩)
    (hcd : codeIn (Kf w) cdv qual = true)
    (hbind : BindsTo s (fnOf name qual params body scope dV kV doc pm an cdv ct) args binds)
    (hcell : (scope.names.all fun x => x.2 != .cell) = true) (hloc : (binds.all fun x => decide (scope.names.lookup x.1 = some .local)) = true)
    (hco : scope.isCoroutine = false) (hgen : scope.isGenerator = false) (hk : scope.kind = .function)
    (h : ∀ h₁, h₁.Ns s.heap.objs.size (fun x => binds.reverse.lookup x) → (∀ b o, s.heap.get? b = some o → h₁.get? b = some o) →
      ∀ (J : Flow → Shared → Prop) E', (∀ v s', R (.ok (.ret v)) s' → J (.ret v) s') → (∀ s', R (.ok (.ret .none)) s' → J .next s') → wpAny (model pg w) (A.deeper (envOf qual scope s.heap.objs.size f cdv)) (execs body (envOf qual scope s.heap.objs.size f cdv)) J E'
        { s with heap := h₁, toks := s.toks + binds.length }) :
    codeAny (model pg w) A (.call (.ref f) args) R s :=
  codeAny_call_def (fd := fnOf name qual params body scope dV kV doc pm an cdv ct) hroom (G.X _ _ ho) rfl G.lim (codeRec_of G.X hcd) rfl hbind
    (fun x hx => by have := List.all_eq_true.mp hcell x hx; simpa using this) (locs hloc) (fun h₁ a b => wpAny_mono (h h₁ a b (fun f s' => R (.ok (.ret (match f with | .ret v => v | _ => .none))) s') _ (fun _ _ q => q) (fun _ q => q)) (fun _ _ q => q) fun _ _ q => q) hco hgen hk

/-- a local's value -/
theorem n_loc {Q : Value → Shared → Prop} (C : Cx w mg mb g L D m own s.heap) (hv : m x = some v) (h : Q v s) (hk : sc.kind = .function := by rfl) (hl : (envOf qn sc L f cd).kindOf x = some .local := by rfl)
    (hd : (x == ("__debug__" : Str)) = false := by rfl) : wpAny (model pg w) A (eval (.Name x pos) (envOf qn sc L f cd)) Q E s :=
  wpAny_Name (wpAny_loadName_local hk hl C.ns hv h) hd

theorem n_glob {Q : Value → Shared → Prop} (C : Cx w mg mb g L D m own s.heap) (e : nsIn (Kf w) mainGlobals x = some (some v)) (h : Q v s) (hk : sc.kind = .function := by rfl) (hl : (envOf qn sc L f cd).kindOf x = some .globalImplicit := by rfl)
    (hd : (x == ("__debug__" : Str)) = false := by rfl) : wpAny (model pg w) A (eval (.Name x pos) (envOf qn sc L f cd)) Q E s := by
  refine wpAny_Name ?_ hd
  rw [loadName_read hk hl]
  unfold loadGlobal
  refine wpAny_bind (wpAny_nsGet C.G.g ?_)
  rw [mg_of C.G.X C.G.g e]
  exact wpAny_pure h

theorem n_built {Q : Value → Shared → Prop} (C : Cx w mg mb g L D m own s.heap) (e : nsIn (Kf w) mainGlobals x = some none) (hv : bootBuiltins x = some v) (hx : x ≠ "__name__") (h : Q v s) (hk : sc.kind = .function := by rfl) (hl : (envOf qn sc L f cd).kindOf x = some .globalImplicit := by rfl)
    (hd : (x == ("__debug__" : Str)) = false := by rfl) : wpAny (model pg w) A (eval (.Name x pos) (envOf qn sc L f cd)) Q E s := by
  refine wpAny_Name ?_ hd
  rw [loadName_read hk hl]
  unfold loadGlobal
  refine wpAny_bind (wpAny_nsGet C.G.g ?_)
  rw [mg_none_of C.G.X C.G.g e]
  refine wpAny_bind (wpAny_nsGet C.G.b ?_)
  rw [C.G.nb x hx, hv]
  exact wpAny_pure h

theorem s_loc {Q : Unit → Shared → Prop} (C : Cx w mg mb g L D m own s.heap) (h : ∀ h', Cx w mg mb g L D (fun y => if y = x then some v else m y) own h' → Q () { s with heap := h', toks := s.toks + 1 })
    (hk : sc.kind = .function := by rfl) (hl : (envOf qn sc L f cd).kindOf x = some .local := by rfl) : wpAny (model pg w) A (storeName (envOf qn sc L f cd) x v) Q E s :=
  wpAny_storeName_local hl C.ns (fun h' hn hs => h h' (C.st hn hs)) (by show (sc.kind == .class || (sc.kind == .module && L != mainGlobals)) = false; rw [hk]; rfl)

theorem s_locB {Q : Unit → Shared → Prop} (C : Cx w mg mb g L D m own s.heap) (h : ∀ h', Cx w mg mb g L D (fun y => if y = x then some v else m y) own h' → Q () { s with heap := h', toks := s.toks + 1 })
    (hk : sc.kind = .function := by rfl) (hl : (envOf qn sc L f cd).kindOf x = some .local := by rfl) : wpAny (model pg w) A (bindName (envOf qn sc L f cd) x v) Q E s :=
  wpAny_bindName (s_loc C h hk hl)

/-- an object's entry out of its dict -/
theorem a_dict {Q : Value → Shared → Prop} {c a dx : Addr} {es : List DictEntry} {n : Nat} {name : Str} {b : Bool} (G : Gd w mg mb s.heap) (h1 : s.heap.get? a = some (instObj c dx)) (h2 : s.heap.get? dx = some (dictOf es n))
    (hf : findObj (Kf w) c (some (dictOf es n)) name = some (.value v)) (h : Q v { s with toks := s.toks + 1 }) (hh : handedIn v = true := by rfl)
    (hga : findIn (Kf w) (.ref c) "__getattribute__" = some (some (.builtin "object.__getattribute__")) := by with_unfolding_all rfl) : wpAny (model pg w) A (getAttr (.ref a) name b) Q E s :=
  get_value G.X ⟨h1, rfl, rfl, h2⟩ hga hf hh h

/-- a slot -/
theorem a_slot {Q : Value → Shared → Prop} {c a p : Addr} {sl : Array (Option Value)} {name : Str} {b : Bool} {i : Nat} (G : Gd w mg mb s.heap) (h1 : s.heap.get? a = some { cls := .ref c, data := .plain, slots := sl })
    (hf : findObj (Kf w) c none name = some (.bind (.builtin "member_descriptor.__get__") (.ref p))) (hp : slotIn (Kf w) p c = some i) (hv : (sl[i]?).join = some v) (h : Q v { s with toks := s.toks + 1 }) (hh : handedIn v = true := by rfl)
    (hga : findIn (Kf w) (.ref c) "__getattribute__" = some (some (.builtin "object.__getattribute__")) := by with_unfolding_all rfl) (hk : findIn (Kf w) (.ref c) "__getattr__" = some none := by with_unfolding_all rfl) : wpAny (model pg w) A (getAttr (.ref a) name b) Q E s := by
  have I : W.InstAt s.heap a { cls := .ref c, data := .plain, slots := sl } c none := ⟨h1, rfl, rfl, trivial⟩
  refine get_bind G.X I hga hf hk ?_
  refine wpAny_call (slot_get (s := { s with toks := s.toks + 1 }) G.X I hp hv ?_)
  show wpAny _ _ (handedOut v) _ _ _
  rw [handedOut_of hh]; exact wpAny_pure h
end
end Mine

namespace Mine
/-- the sorter's entries -/
abbrev sEnt (w : World) (t1 t2 t3 t4 : Tok) (vN vR vP vF : Value) : List DictEntry :=
  [⟨PyData.keyHash w.params "_node2info", .str "_node2info" t1, vN⟩, ⟨PyData.keyHash w.params "_ready_nodes", .str "_ready_nodes" t2, vR⟩,
   ⟨PyData.keyHash w.params "_npassedout", .str "_npassedout" t3, vP⟩, ⟨PyData.keyHash w.params "_nfinished", .str "_nfinished" t4, vF⟩]
section
variable {w : World} {mg mb : Str → Option Value} {A : Around} {s : Shared} {t1 t2 t3 t4 : Tok} {vN vR vP vF : Value}
theorem fN : findObj (Kf w) 137 (some (dictOf (sEnt w t1 t2 t3 t4 vN vR vP vF) n)) "_node2info" = some (.value vN) := by with_unfolding_all rfl
theorem fR : findObj (Kf w) 137 (some (dictOf (sEnt w t1 t2 t3 t4 vN vR vP vF) n)) "_ready_nodes" = some (.value vR) := by with_unfolding_all rfl
theorem fP : findObj (Kf w) 137 (some (dictOf (sEnt w t1 t2 t3 t4 vN vR vP vF) n)) "_npassedout" = some (.value vP) := by with_unfolding_all rfl
theorem fF : findObj (Kf w) 137 (some (dictOf (sEnt w t1 t2 t3 t4 vN vR vP vF) n)) "_nfinished" = some (.value vF) := by with_unfolding_all rfl

theorem isList_of {h : Heap} {l : Addr} {its : Array Value} {n : Nat} (e : h.get? l = some (listOf its n)) : h.IsList l its := ⟨_, e, rfl, n, rfl⟩

theorem meets_bool_new_list (l : Addr) (items : Array Value) (hfit : (items.size : Int) < 2 ^ 63) :
    Meets (Builtin.«bool.__new__» ⟨[.type "bool", .ref l], []⟩) (fun _ R s => s.heap.IsList l items ∧ R (.ok (.ret (.bool (!items.isEmpty)))) { s with toks := s.toks + 1 + 1 }) :=
  Meets.of_wp fun prog w A R s hs => by
    obtain ⟨hl, hs⟩ := hs
    obtain ⟨hp, g, d, tk, os⟩ := s
    have f1 := F.conv_sub_bool
    repeat (any_goals (first | assumption | (with_reducible refine wpAny_truthy_list hl hfit ?_) | wp_step))
    all_goals first | exact ⟨_, rfl, hs⟩ | exact hs | skip
/-- bool of a list -/
theorem bool_list {l : Addr} {items : Array Value} {E : Value → Shared → Prop} {Q : Value → Shared → Prop} (hl : s.heap.IsList l items) (hfit : (items.size : Int) < 2 ^ 63)
    (h : Q (.bool (!items.isEmpty)) { s with toks := s.toks + 1 + 1 }) : wpAny (model pg w) A (call (.type "bool") [.ref l]) Q E s :=
  call_bool_1 (meets_bool_new_list l items hfit) ⟨hl, rfl, h⟩

theorem is_active_spec {R : Result → Shared → Prop} {x dx rl : Addr} {n n' : Nat} {its : Array Value} {p f : Int} {tp tf : Tok} (G : Gd w mg mb s.heap) (hroom : A.depth < recursionLimit)
    (hx : s.heap.get? x = some (instObj 137 dx)) (hdx : s.heap.get? dx = some (dictOf (sEnt w t1 t2 t3 t4 vN (.ref rl) (.int p tp) (.int f tf)) n))
    (hrl : s.heap.get? rl = some (listOf its n')) (hsz : its.size < 2 ^ 20)
    (h : ∀ h' tk, (∀ b o, s.heap.get? b = some o → h'.get? b = some o) → R (.ok (.ret (.bool (decide (f < p) || !its.isEmpty)))) { s with heap := h', toks := tk }) :
    codeAny (model pg w) A (.call (.ref 106) ⟨[.ref x], []⟩) R s := by
  refine enter (binds := [("self", .ref x)]) G hroom rfl (by with_unfolding_all rfl) (BindsTo.of_eq rfl) rfl rfl rfl rfl rfl ?_
  intro h₁ hns hk J₀ E₀ hJ₀ hN₀
  have C : Cx w mg mb s.heap s.heap.objs.size [] _ [] h₁ := Cx.start0 G hns hk
  refine wpAny_execs_cons (wpAny_If (wpAny_isTrue_Compare1 (Attribute_any_ (n_loc C rfl (a_dict C.G (hk _ _ hx) (hk _ _ hdx) fR ?_)))))
  refine wpAny_Constant_none (is_none (wpAny_truthy_bool (wpAny_execs_nil ?_)))
  refine wpAny_execs_cons (wpAny_Return_some (wpAny_Or2 (wpAny_Compare1 (Attribute_any_ (n_loc C rfl (a_dict C.G (hk _ _ hx) (hk _ _ hdx) fF ?_))))))
  refine Attribute_any_ (n_loc C rfl (a_dict C.G (hk _ _ hx) (hk _ _ hdx) fP ?_))
  refine lt_int (wpAny_truthy_bool ?_)
  split
  · rename_i hlt
    rw [hlt] at h ⊢
    exact hJ₀ _ _ (h h₁ _ hk)
  · rename_i hlt
    rw [Bool.eq_false_iff.mpr hlt] at h
    refine Call_ (n_built (v := .type "bool") C (by with_unfolding_all rfl) (by decide +kernel) (by decide) ?_)
    refine PyProof.Rows.callWith_type1 (wpAny_items_cons (Attribute_any_ (n_loc C rfl (a_dict C.G (hk _ _ hx) (hk _ _ hdx) fR (wpAny_items_nil ?_)))))
    exact bool_list (isList_of (hk _ _ hrl)) (by exact ar173 hsz) (hJ₀ _ _ (h h₁ _ hk))
end
end Mine

namespace Mine
/-- own' is own with a's object now o' -/
def Upd (own : List (Addr × Obj)) (a : Addr) (o' : Obj) (own' : List (Addr × Obj)) : Prop := ∀ p ∈ own', p = (a, o') ∨ (p.1 ≠ a ∧ p ∈ own)
theorem Upd.nil {own : List (Addr × Obj)} {a : Addr} {o' : Obj} : Upd own a o' [] := fun _ q => nomatch q
theorem Upd.here {own own' : List (Addr × Obj)} {a : Addr} {o' : Obj} (h : Upd own a o' own') : Upd own a o' ((a, o') :: own') := fun p hp => by
  rcases List.mem_cons.mp hp with rfl | hp
  · exact .inl rfl
  · exact h p hp
theorem Upd.other {own own' : List (Addr × Obj)} {a b : Addr} {o o' : Obj} (hb : b ≠ a) (hm : (b, o) ∈ own) (h : Upd own a o' own') : Upd own a o' ((b, o) :: own') := fun p hp => by
  rcases List.mem_cons.mp hp with rfl | hp
  · exact .inr ⟨hb, hm⟩
  · exact h p hp
theorem Upd.rest {own own' : List (Addr × Obj)} {a : Addr} {o' : Obj} (h : ∀ p ∈ own', p.1 ≠ a ∧ p ∈ own) : Upd own a o' own' := fun p hp => .inr (h p hp)

section
variable {w : World} {mg mb : Str → Option Value} {g : Heap} {L f : Addr} {D : List Addr} {m : Str → Option Value} {own : List (Addr × Obj)} {s : Shared} {A : Around} {E : Value → Shared → Prop}
  {v : Value} {c a : Addr} {ox od : Obj} {name : Str} {Q : Unit → Shared → Prop}

theorem Cx.split {h : Heap} (C : Cx w mg mb g L D m own h) {a : Addr} {o : Obj} (hm : (a, o) ∈ own) : News (hideAll g D) L h ([] ++ (a, o) :: own.filter fun p => p.1 ≠ a) := fun p hp => by
  rcases List.mem_cons.mp hp with rfl | hp
  · exact C.nw _ hm
  · exact C.nw p (List.mem_filter.mp hp).1
theorem Cx.join {h h' : Heap} (C : Cx w mg mb g L D m own h) {a : Addr} {o' : Obj} (F : Fr (hideAll g D) L h' m) (N : News (hideAll g D) L h' ([] ++ (a, o') :: own.filter fun p => p.1 ≠ a)) {own' : List (Addr × Obj)} (u : Upd own a o' own') : Cx w mg mb g L D m own' h' :=
  C.of F fun p hp => N p (by
    rcases u p hp with rfl | ⟨q, r⟩
    · exact List.mem_cons_self
    · exact List.mem_cons_of_mem _ (List.mem_filter.mpr ⟨r, by simpa using q⟩))

/-- a slot stored -/
theorem set_slot {p i : Nat} {ox' : Obj} {dd : Addr} (C : Cx w mg mb g L D m own s.heap) (hm : (a, ox) ∈ own) (hc : ox.cls = .ref c) (hn : notCls ox = true) (hdd : ox.dict = some dd) (hdo : s.heap.get? dd = some od)
    (ht : takerIn (Kf w) c name = some (some (.ref p))) (hp : slotIn (Kf w) p c = some i) (hi : i < 1000)
    (e : { ox with slots := (ox.slots ++ Array.replicate (i + 1 - ox.slots.size) none).setIfInBounds i (some v) } = ox') (hf : ox'.isFreed = false)
    (h : ∀ h', (∀ own', Upd own a ox' own' → Cx w mg mb g L D m own' h') → Q () { s with heap := h', toks := s.toks + 1 })
    (hs : findIn (Kf w) (.ref c) "__setattr__" = some (some (.builtin "object.__setattr__")) := by with_unfolding_all rfl) (hpo : plainOver (Kf w) c = true := by with_unfolding_all rfl)
    (hT : typeIn (Kf w) (.ref p) = some (.type "member_descriptor") := by with_unfolding_all rfl) : wpAny (model pg w) A (setAttr (.ref a) name v) Q E s := by
  have I : W.InstAt s.heap a ox c (some od) := ⟨C.get hm, hc, hn, by rw [hdd]; exact hdo⟩
  refine set_plain C.G.X I hs ?_
  refine osa_descr (s := { s with toks := s.toks + 1 }) KF.slot_mset C.G.X I hpo ht hT ?_
  refine slot_set (s := { s with toks := s.toks + 1 }) C.fr (C.split hm) C.G.X I hp hi (fun _ q => nomatch q) (fun p hp => by simpa using (List.mem_filter.mp hp).2) e hf fun h' F' N' => ?_
  exact h h' fun own' u => C.join F' N' u

/-- an entry stored into the object's dict -/
theorem set_dict {dx : Addr} {od' : Obj} {es : List DictEntry} {n : Nat} (C : Cx w mg mb g L D m own s.heap) (hx : s.heap.get? a = some (instObj c dx)) (hm : (dx, od) ∈ own)
    (ht : takerIn (Kf w) c name = some none) (hl : (lookIn name od).isSome = true)
    (e : Obj.putName name (PyData.keyHash w.params name) (.str name (s.toks + 1)) v od = od') (e' : od'.data = .dict es.toArray n) (hz : es.length ≤ 1000)
    (h : ∀ h', (∀ own', Upd own dx od' own' → Cx w mg mb g L D m own' h') → Q () { s with heap := h', toks := s.toks + 1 + 1 })
    (hh : (clsIn (Kf w) c).any (·.hasDict) = true := by with_unfolding_all rfl)
    (hs : findIn (Kf w) (.ref c) "__setattr__" = some (some (.builtin "object.__setattr__")) := by with_unfolding_all rfl) (hpo : plainOver (Kf w) c = true := by with_unfolding_all rfl) : wpAny (model pg w) A (setAttr (.ref a) name v) Q E s := by
  have I : W.InstAt s.heap a (instObj c dx) c (some od) := ⟨hx, rfl, rfl, C.get hm⟩
  refine set_plain C.G.X I hs ?_
  refine osa_dict (s := { s with toks := s.toks + 1 }) C.fr (C.split hm) C.G.X I rfl hpo ht hh hl (fun _ q => nomatch q) (fun p hp => by simpa using (List.mem_filter.mp hp).2) e e' hz fun h' F' N' => ?_
  exact h h' fun own' u => C.join F' N' u
end
end Mine

namespace Mine
abbrev infoObj (dd : Addr) (vn vp vs : Value) : Obj := { cls := .ref 40, dict := some dd, data := .plain, slots := #[some vn, some vp, some vs] }
section
variable {w : World} {mg mb : Str → Option Value} {A : Around} {s : Shared}
theorem tk_node : takerIn (Kf w) 40 "node" = some (some (.ref 41)) := by with_unfolding_all rfl
theorem tk_np : takerIn (Kf w) 40 "npredecessors" = some (some (.ref 42)) := by with_unfolding_all rfl
theorem tk_sc : takerIn (Kf w) 40 "successors" = some (some (.ref 43)) := by with_unfolding_all rfl
theorem sl_node : slotIn (Kf w) 41 40 = some 0 := by with_unfolding_all rfl
theorem sl_np : slotIn (Kf w) 42 40 = some 1 := by with_unfolding_all rfl
theorem sl_sc : slotIn (Kf w) 43 40 = some 2 := by with_unfolding_all rfl

theorem node_init_spec {R : Result → Shared → Prop} {x dd : Addr} {v : Value} (G : Gd w mg mb s.heap) (hroom : A.depth < recursionLimit) (hx : s.heap.get? x = some (instObj 40 dd)) (hlow : 181 ≤ x) (hdd : s.heap.get? dd = some emptyDict) (hne : dd ≠ x)
    (h : ∀ h' la tk tn, (∀ b o, s.heap.get? b = some o → b ≠ x → h'.get? b = some o) → s.heap.objs.size ≤ la → h'.get? la = some (listOf #[] 0) → h'.get? x = some (infoObj dd v (.int 0 tn) (.ref la)) → R (.ok (.ret .none)) { s with heap := h', toks := tk }) :
    codeAny (model pg w) A (.call (.ref 36) ⟨[.ref x, v], []⟩) R s := by
  refine enter (binds := [("self", .ref x), ("node", v)]) G hroom rfl (by with_unfolding_all rfl) (BindsTo.of_eq rfl) rfl rfl rfl rfl rfl ?_
  intro h₁ hns hk J₀ E₀ hJ₀ hN₀
  have C := Cx.start G hns hk [(x, instObj 40 dd)] (fun p hp => by rcases List.mem_singleton.mp hp with rfl; exact ⟨hx, hlow⟩)
  refine wpAny_execs_cons (plainObj_wpAny_Assign_Attribute (n_loc C rfl (n_loc C rfl ?_)))
  refine set_slot (ox' := { cls := .ref 40, dict := some dd, data := .plain, slots := #[some v] }) C (List.mem_singleton.mpr rfl) rfl rfl rfl (C.keep hdd (by simpa using hne)) tk_node sl_node (by decide) rfl rfl fun h2 C2 => ?_
  replace C2 := C2 _ (Upd.here Upd.nil)
  refine wpAny_execs_cons (plainObj_wpAny_Assign_Attribute (wpAny_Constant_int (n_loc C2 rfl ?_)))
  refine set_slot (ox' := { cls := .ref 40, dict := some dd, data := .plain, slots := #[some v, some (.int 0 _)] }) C2 (List.mem_singleton.mpr rfl) rfl rfl rfl (C2.keep hdd (by simpa using hne)) tk_np sl_np (by decide) rfl rfl fun h3 C3 => ?_
  replace C3 := C3 _ (Upd.here Upd.nil)
  refine wpAny_execs_cons (plainObj_wpAny_Assign_Attribute (wpAny_List (wpAny_items_nil ⟨by decide, ?_⟩)))
  have C4 := C3.push (listOf #[] 0)
  refine n_loc C4 rfl ?_
  refine set_slot (ox' := infoObj dd v (.int 0 _) (.ref h3.objs.size)) C4 (List.mem_cons_of_mem _ (List.mem_singleton.mpr rfl)) rfl rfl rfl (C4.keep hdd (by simpa using hne)) tk_sc sl_sc (by decide) rfl rfl fun h5 C5 => ?_
  have hne2 : h3.objs.size ≠ x := Nat.ne_of_gt (C3.lt (List.mem_singleton.mpr rfl))
  replace C5 := C5 _ (Upd.here (Upd.other hne2 List.mem_cons_self Upd.nil))
  refine wpAny_execs_nil ?_
  exact hN₀ _ (h h5 h3.objs.size _ _ (fun b o e hb => C5.keep e (by simpa using hb)) (Nat.le_of_lt (Nat.lt_of_le_of_lt C3.above C3.ns.lt)) (C5.get (.tail _ (.head _))) (C5.get (.head _)))
end
end Mine

namespace Mine
section
variable {w : World} {mg mb : Str → Option Value} {A : Around} {s : Shared}

theorem node_make_spec {R : Result → Shared → Prop} {v : Value} (G : Gd w mg mb s.heap) (hroom : A.depth + 1 < recursionLimit) (hlow : 181 ≤ s.heap.objs.size)
    (h : ∀ h' x dd la tk tn, (∀ b o, s.heap.get? b = some o → h'.get? b = some o) → s.heap.objs.size ≤ dd → dd < x → x < la → h'.get? dd = some emptyDict → h'.get? la = some (listOf #[] 0) → h'.get? x = some (infoObj dd v (.int 0 tn) (.ref la)) →
      R (.ok (.ret (.ref x))) { s with heap := h', toks := tk }) :
    codeAny (model pg w) A (.call (.ref 40) ⟨[v], []⟩) R s := by
  obtain ⟨hp, gs, d, t, os⟩ := s
  have hi : findIn (Kf w) (.ref 40) "__init__" = some (some (.ref 36)) := by with_unfolding_all rfl
  have hf : typeIn (Kf w) (.ref 36) = some (.type "function") := by with_unfolding_all rfl
  refine make_core (makes_of G.X (by with_unfolding_all rfl)) (looks_findIn G.X hi) (fun self => bind_fn G.X self hf) (.inl rfl) ?_
  have hk : ∀ b o, hp.get? b = some o → ((hp.push emptyDict).push (instObj 40 hp.objs.size)).get? b = some o := fun b o e => Heap.get?_push_of_some _ (Heap.get?_push_of_some _ e)
  refine node_init_spec (dd := hp.objs.size) (G.keeps fun b o _ e => hk b o e) ?_ ?_ ?_ ?_ ?_ ?_
  · exact hroom
  · heap_get
  · exact Nat.le_succ_of_le hlow
  · heap_get
  · exact Nat.ne_of_lt (Nat.lt_succ_self _)
  · intro h' la tk tn k1 k2 k3 k4
    refine ⟨rfl, h h' _ hp.objs.size la tk tn (fun b o e => k1 b o (hk b o e) (Nat.ne_of_lt (Nat.lt_succ_of_lt (Heap.lt_size e)))) (Nat.le_refl _) (Nat.lt_succ_self _) ?_ ?_ k3 k4⟩
    · have : hp.objs.size + 2 ≤ la := by simpa [Heap.size_push] using k2
      omega
    · refine k1 _ _ ?_ (Nat.ne_of_lt (Nat.lt_succ_self _))
      heap_get
end
end Mine

namespace Mine
abbrev ik (w : World) : KeyKind pg w Int := intKind pg w
section
variable {w : World} {mg mb : Str → Option Value} {g : Heap} {L f : Addr} {D : List Addr} {m : Str → Option Value} {own : List (Addr × Obj)} {s : Shared} {A : Around} {E : Value → Shared → Prop}
  {qn : Str} {sc : Scope} {cd : Value} {x : Str} {pos : Pos} {v : Value}
theorem as_loc {Q : Unit → Shared → Prop} (C : Cx w mg mb g L D m own s.heap) (h : ∀ h', Cx w mg mb g L D (fun y => if y = x then some v else m y) own h' → Q () { s with heap := h', toks := s.toks + 1 })
    (hk : sc.kind = .function := by rfl) (hl : (envOf qn sc L f cd).kindOf x = some .local := by rfl) : wpAny (model pg w) A (assign (.Name x pos) (envOf qn sc L f cd) v) Q E s := by
  show wpAny _ _ (standAt pos >>= fun _ => bindName (envOf qn sc L f cd) x v) _ _ _
  exact wpAny_bind (wpAny_standAt (s_locB C h hk hl))
theorem as_sub {M : Model} {env : Env} {o i : Expr} {Q : Unit → Shared → Prop} (h : wpAny M A (eval o env) (fun ov s₁ => wpAny M A (eval i env) (fun iv s₂ => wpAny M A (setItem ov iv v) Q E s₂) E s₁) E s) :
    wpAny M A (assign (.Subscript o i pos) env v) Q E s := fun Γ p hΓ => by
  rw [arm_assign_Subscript]
  simp only [Sem.wp_bind', Sem.wp_holding, Sem.wp_cmd_standAt, Sem.wp_release]
  exact Sem.wp_mono M Γ _ (fun ov p₁ s₁ h₁ => Sem.wp_mono M Γ _ (fun iv p₂ s₂ h₂ => Sem.wp_mono M Γ _ (fun _ _ _ h₃ => h₃) (fun _ _ _ h' => h') _ _ (h₂ Γ _ hΓ)) (fun _ _ _ h' => h') _ _ (h₁ Γ p₁ hΓ)) (fun _ _ _ h' => h') _ _ (h Γ _ hΓ)
end
section
variable {w : World} {mg mb : Str → Option Value} {A : Around} {s : Shared} {t1 t2 t3 t4 : Tok} {vN vR vP vF : Value} {E : Value → Shared → Prop}
theorem is_int (k : Int) (t : Tok) : (ik w).is k (.int k t) = true := by show Value.isInt k (.int k t) = true; simp [Value.isInt]
theorem DictOf.keeps {h h' : Heap} {d : Addr} {kvs : List (Int × Value)} (H : h.DictOf (ik w) d kvs) (hk : ∀ o, h.get? d = some o → h'.get? d = some o) : h'.DictOf (ik w) d kvs :=
  let ⟨o, es, ep, ho, r⟩ := H; ⟨o, es, ep, hk o ho, r⟩
theorem low_sys {d : Addr} (h : 181 ≤ d) : (d == sysModules) = false := by
  have : d ≠ sysModules := fun e => by subst e; exact absurd h (by decide)
  simpa using this

theorem gni_spec {R : Result → Shared → Prop} {x dx d : Addr} {n : Nat} {kvs : List (Int × Value)} {k : Int} {t : Tok} (G : Gd w mg mb s.heap) (hroom : A.depth + 4 < recursionLimit) (hbig : 181 ≤ s.heap.objs.size)
    (hx : s.heap.get? x = some (instObj 137 dx)) (hdx : s.heap.get? dx = some (dictOf (sEnt w t1 t2 t3 t4 (.ref d) vR vP vF) n)) (hd : s.heap.DictOf (ik w) d kvs) (hlow : 181 ≤ d) (hne : d ≠ x) (hne' : d ≠ dx) (hsz : kvs.length ≤ 100)
    (hfound : ∀ a, valueAt kvs k = some (.ref a) → ∀ h' tk, (∀ b o, s.heap.get? b = some o → h'.get? b = some o) → R (.ok (.ret (.ref a))) { s with heap := h', toks := tk })
    (href : ∀ v, valueAt kvs k = some v → ∃ a, v = .ref a)
    (hnew : valueAt kvs k = none → ∀ h' xi dd la tk tn, (∀ b o, s.heap.get? b = some o → b ≠ d → h'.get? b = some o) → h'.DictOf (ik w) d (kvs ++ [(k, .ref xi)]) → s.heap.objs.size ≤ dd → dd < xi → xi < la →
      h'.get? dd = some emptyDict → h'.get? la = some (listOf #[] 0) → h'.get? xi = some (infoObj dd (.int k t) (.int 0 tn) (.ref la)) → R (.ok (.ret (.ref xi))) { s with heap := h', toks := tk }) :
    codeAny (model pg w) A (.call (.ref 80) ⟨[.ref x, .int k t], []⟩) R s := by
  refine enter (binds := [("self", .ref x), ("node", .int k t)]) G (by exact ar78 hroom) rfl (by with_unfolding_all rfl) (BindsTo.of_eq rfl) rfl rfl rfl rfl rfl ?_
  intro h₁ hns hk J₀ E₀ hJ₀ hN₀
  obtain ⟨od, es, ep, hod, hod'⟩ := hd
  have C := Cx.start G hns hk [(d, od)] (fun p hp => by rcases List.mem_singleton.mp hp with rfl; exact ⟨hod, hlow⟩)
  have kx : s.heap.get? x = some (instObj 137 dx) ∧ x ∉ [(d, od)].map (·.1) := ⟨hx, by simpa using Ne.symm hne⟩
  have kdx : _ ∧ dx ∉ [(d, od)].map (·.1) := ⟨hdx, by simpa using Ne.symm hne'⟩
  refine wpAny_execs_cons (wpAny_If (wpAny_isTrue_Compare1 (wpAny_NamedExpr (MethodCall_ (Attribute_any_ (n_loc C rfl (a_dict C.G (C.keep kx.1 kx.2) (C.keep kdx.1 kdx.2) fN ?_)))))))
  have D1 : h₁.DictOf (ik w) d kvs := ⟨od, es, ep, C.get (.head _), hod'⟩
  refine getMethod_builtin D1.typeIs PySem.F.plainAttrs_dict PySem.F.slot_dict_get PySem.F.type_dict_get D1.mapOf.noDict ?_
  refine wpAny_dict_get1 (knd := ik w) (low_sys hlow) (n_loc C rfl ⟨k, valueAt kvs, is_int k t, D1.mapOf, ?_⟩)
  refine as_loc C fun h2 C2 => flat s fun _ => ?_
  refine wpAny_Constant_none (is_none (wpAny_truthy_bool ?_))
  have kx2 := C2.keep kx.1 kx.2
  have kdx2 := C2.keep kdx.1 kdx.2
  cases hv : valueAt kvs k with
  | some v =>
    rw [hv] at C2
    obtain ⟨a, rfl⟩ := href v hv
    refine wpAny_execs_nil ?_
    refine wpAny_execs_cons (wpAny_Return_some (n_loc C2 rfl ?_))
    refine hJ₀ _ _ (hfound a hv h2 _ fun b o e => ?_)
    by_cases hb : b = d
    · subst hb; rw [hod] at e; cases e; exact C2.get (.head _)
    · exact C2.keep e (by simpa using hb)
  | none =>
    rw [hv] at C2
    refine wpAny_execs_cons (wpAny_Assign_two ?_)
    refine Call_ (n_glob (v := .ref 40) C2 (by with_unfolding_all rfl) ?_)
    refine callWith_K C2.G.X (by with_unfolding_all rfl) (wpAny_items_cons (n_loc C2 rfl (wpAny_items_nil ⟨C2.G.X, ?_⟩)))
    refine wpAny_call (node_make_spec C2.G ?_ ?_ ?_)
    · show A.depth + 1 + 1 < recursionLimit; exact ar79 hroom
    · exact Nat.le_trans hbig (Nat.le_of_lt (Nat.lt_of_le_of_lt C2.above C2.ns.lt))
    intro h3 xi dd la tk tn k1 k2 k3 k4 k5 k6 k7
    have k2 : h2.objs.size ≤ dd := k2
    have hd2 : h2.objs.size > d := C2.lt (.head _)
    have C3 : Cx w mg mb s.heap s.heap.objs.size _ _ [(d, od), (dd, emptyDict), (la, listOf #[] 0), (xi, infoObj dd (.int k t) (.int 0 tn) (.ref la))] h3 := C2.call (D' := []) (fun b o e _ => k1 b o e) (fun _ q => nomatch q) fun p hp => by
      rcases List.mem_cons.mp hp with rfl | hp
      · exact .inl ⟨.head _, fun q => nomatch q⟩
      · right
        simp only [List.mem_cons, List.not_mem_nil, or_false] at hp
        rcases hp with rfl | rfl | rfl
        · exact ⟨k5, .inr (none_of_ge k2)⟩
        · exact ⟨k6, .inr (none_of_ge (Nat.le_trans k2 (Nat.le_of_lt (Nat.lt_trans k3 k4))))⟩
        · exact ⟨k7, .inr (none_of_ge (Nat.le_trans k2 (Nat.le_of_lt k3)))⟩
    refine as_sub (Attribute_any_ (n_loc C3 rfl (a_dict C3.G (C3.keep kx.1 kx.2) (C3.keep kdx.1 kdx.2) fN (n_loc C3 rfl ?_))))
    have D3 : h3.DictOf (ik w) d kvs := ⟨od, es, ep, C3.get (.head _), hod'⟩
    refine wpAny_setItem_pairs (knd := ik w) (is_int k t) D3 (fun h4 D4 sb => ?_) (by rw [sizeLine_eq]; exact ar80 hsz)
    obtain ⟨o4, es4, ep4, ho4, r4⟩ := D4
    have C4 := C3.chg (.head _) sb ho4 (own' := [(d, o4), (dd, emptyDict), (la, listOf #[] 0), (xi, infoObj dd (.int k t) (.int 0 tn) (.ref la))])
      (Upd.here (Upd.other (Nat.ne_of_gt (by exact ar81 k2 hd2)) (.tail _ (.head _)) (Upd.other (Nat.ne_of_gt (by exact ar82 k3 k4 k2 hd2)) (.tail _ (.tail _ (.head _))) (Upd.other (Nat.ne_of_gt (by exact ar83 k3 k2 hd2)) (.tail _ (.tail _ (.tail _ (.head _)))) Upd.nil))))
    refine as_loc C4 fun h5 C5 => flat s fun _ => ?_
    refine wpAny_execs_nil (wpAny_execs_cons (wpAny_Return_some (n_loc C5 rfl ?_)))
    have hL : s.heap.objs.size < h2.objs.size := C2.ns.lt
    have st : stored kvs k (Value.ref xi) = kvs ++ [(k, .ref xi)] := by
      unfold stored
      rw [if_neg]
      intro q
      obtain ⟨kv, hkv, e⟩ := List.any_eq_true.mp q
      unfold valueAt at hv
      rw [Option.map_eq_none_iff] at hv
      exact List.find?_eq_none.mp hv kv hkv e
    have D5 : h5.DictOf (ik w) d (kvs ++ [(k, .ref xi)]) := st ▸ ⟨o4, es4, ep4, C5.get (.head _), r4⟩
    exact hJ₀ _ _ (hnew hv h5 xi dd la _ _ (fun b o e hb => C5.keep e (by simpa using hb)) D5 (by exact ar84 k2 hL) k3 k4 (C5.get (.tail _ (.head _))) (C5.get (.tail _ (.tail _ (.head _)))) (C5.get (.tail _ (.tail _ (.tail _ (.head _))))))
end
end Mine

namespace Mine
abbrev tupOf (vs : List Value) : Obj := { cls := .type "tuple", data := .seq vs.toArray }
section
variable {w : World} {mg mb : Str → Option Value} {A : Around} {s : Shared} {f : Addr}

theorem enterV {R : Result → Shared → Prop} {oc : Value} {od : Option Addr} {osl : Array (Option Value)} {name qual : Str} {params : Arguments} {body : List Stmt} {scope : Scope} {dV kV doc pm cdv ct : Value} {an : Option Addr} {args : Args} {binds : List (Str × Value)} {vs : List Value}
    (G : Gd w mg mb s.heap) (hroom : A.depth < recursionLimit)
    (ho : (Kf w).lookup f = some ⟨oc, od, .func (fnOf name qual params body scope dV kV doc pm an cdv ct), osl⟩)
    (hcd : codeIn (Kf w) cdv qual = true)
    (hbind : ∀ (M : Model) (A : Around) (E : Value → Shared → Prop) (Q : List (Str × Value) → Shared → Prop), Q binds { s with heap := s.heap.push (tupOf vs) } → wpAny M A (bindArgs (fnOf name qual params body scope dV kV doc pm an cdv ct) args) Q E s)
    (hcell : (scope.names.all fun x => x.2 != .cell) = true) (hloc : (binds.all fun x => decide (scope.names.lookup x.1 = some .local)) = true)
    (hco : scope.isCoroutine = false) (hgen : scope.isGenerator = false) (hk : scope.kind = .function)
    (h : ∀ h₁, h₁.Ns (s.heap.push (tupOf vs)).objs.size (fun x => binds.reverse.lookup x) → (∀ b o, (s.heap.push (tupOf vs)).get? b = some o → h₁.get? b = some o) →
      ∀ (J : Flow → Shared → Prop) E', (∀ v s', R (.ok (.ret v)) s' → J (.ret v) s') → (∀ s', R (.ok (.ret .none)) s' → J .next s') → wpAny (model pg w) (A.deeper (envOf qual scope (s.heap.push (tupOf vs)).objs.size f cdv)) (execs body (envOf qual scope (s.heap.push (tupOf vs)).objs.size f cdv)) J E'
        { s with heap := h₁, toks := s.toks + binds.length }) :
    codeAny (model pg w) A (.call (.ref f) args) R s := by
  refine codeAny_call_function hroom (G.X _ _ ho) rfl hco hgen rfl (codeRec_of G.X hcd) (hbind _ _ _ _ ?_)
  have hcell' : ∀ x ∈ scope.names, x.2 ≠ .cell := fun x hx => by have := List.all_eq_true.mp hcell x hx; simpa using this
  refine wpAny_newFunctionEnv (s := { s with heap := s.heap.push (tupOf vs) }) hcell' (locs hloc) (fun h₀ hns₀ hsb₀ => ⟨Heap.NoLimit.fresh (G.keeps fun b o _ e => Heap.get?_push_of_some _ e : Gd w mg mb (s.heap.push (tupOf vs))).lim _ hsb₀, codeAny_func (h h₀ hns₀ (fun b o e => ?_) _ _ (fun _ _ q => q) (fun _ q => q))⟩) hk
  exact hsb₀.extBut b o (Nat.ne_of_lt (Heap.lt_size e)) (Heap.get?_push_of_some _ e)

theorem bind_var {fd : FuncData} {p1 : Pos} {a1 : Option Expr} {vn : Str} {vs1 : List Value} {vs : List Value} {as1 : List Arg} {n1 : List Str}
    (hpar : fd.params = { posonlyargs := [], args := as1, vararg := some ⟨vn, a1, p1⟩, kwonlyargs := [], kw_defaults := [], kwarg := none, defaults := [] }) (hn : as1.map (·.arg) = n1) (hd : fd.defaults = .none) (hl : n1.length = vs1.length)
    (hm : (n1.filter fun n => ((n1.zip vs1).lookup n).isNone) = []) :
    bindArgs fd ⟨vs1 ++ vs, []⟩ = (newTuple vs >>= fun tv => pure ((n1.filterMap fun n => ((n1.zip vs1).lookup n).map (n, ·)) ++ [(vn, tv)])) := by
  have hz : n1.zip (vs1 ++ vs) = n1.zip vs1 := by
    have := List.zip_append (l₁ := n1) (l₂ := vs1) (r₁ := ([] : List Str)) (r₂ := vs) hl
    simpa using this
  have hdr : (vs1 ++ vs).drop n1.length = vs := by rw [hl, List.drop_left]
  unfold bindArgs
  simp only [hpar, hn, hd, List.map_nil, List.nil_append, hz]
  show (seqItems? Value.none >>= fun r => _) = _
  rw [show seqItems? Value.none = pure none from rfl]
  simp only [pure_bind, Option.getD_none, Option.isNone_some, Bool.and_false, Bool.false_eq_true, if_false, List.length_nil, Nat.zero_sub, List.drop_zero, Nat.sub_zero, List.take_length, hm, List.isEmpty_nil, Bool.not_true, List.append_nil, hdr, List.zip_nil_right, List.forIn_nil]
end
end Mine

namespace Mine
/-- a node of the sorter, as it lies in the heap -/
structure Nd where
  k : Int
  np : Int
  sn : List Int
  sv : List Value
  ia : Addr
  da : Addr
  la : Addr
  tn : Tok
  tp : Tok
  ep : Nat
abbrev Nd.info (n : Nd) : Obj := infoObj n.da (.int n.k n.tn) (.int n.np n.tp) (.ref n.la)
abbrev Nd.lst (n : Nd) : Obj := listOf n.sv.toArray n.ep
abbrev Nd.objs (n : Nd) : List (Addr × Obj) := [(n.ia, n.info), (n.la, n.lst), (n.da, emptyDict)]
abbrev kvOf (ns : List Nd) : List (Int × Value) := ns.map fun n => (n.k, .ref n.ia)
abbrev objsOf (ns : List Nd) : List (Addr × Obj) := ns.flatMap Nd.objs

/-- the nodes in the heap h under the dict d -/
structure Nds (w : World) (h : Heap) (d : Addr) (ns : List Nd) : Prop where
  dict : h.DictOf (ik w) d (kvOf ns)
  info : ∀ n ∈ ns, h.get? n.ia = some n.info
  lst : ∀ n ∈ ns, h.get? n.la = some n.lst
  dd : ∀ n ∈ ns, h.get? n.da = some emptyDict
  iv : ∀ n ∈ ns, IntsAre n.sv n.sn
  li : ∀ n ∈ ns, 181 ≤ n.ia
  ll : ∀ n ∈ ns, 181 ≤ n.la
  lda : ∀ n ∈ ns, 181 ≤ n.da
  inj : ∀ n ∈ ns, ∀ n' ∈ ns, n.la = n'.la → n.k = n'.k
  dne : ∀ n ∈ ns, n.da ≠ d
  len : ns.length ≤ 90

section
variable {w : World} {h h' : Heap} {d : Addr} {ns : List Nd}
theorem Nds.nodup (N : Nds w h d ns) : (ns.map (·.k)).Nodup := by
  obtain ⟨_, _, _, _, _, _, _, _, q⟩ := N.dict
  rwa [List.map_map] at q
theorem Nds.key (N : Nds w h d ns) {n n' : Nd} (h1 : n ∈ ns) (h2 : n' ∈ ns) (e : n.k = n'.k) : n = n' := by
  have := N.nodup
  clear N
  induction ns with
  | nil => cases h1
  | cons x r ih =>
    rw [List.map_cons, List.nodup_cons] at this
    rcases List.mem_cons.mp h1 with a1 | a1
    · rcases List.mem_cons.mp h2 with a2 | a2
      · rw [a1, a2]
      · exact absurd (List.mem_map.mpr ⟨n', a2, by rw [← e, a1]⟩) this.1
    · rcases List.mem_cons.mp h2 with a2 | a2
      · exact absurd (List.mem_map.mpr ⟨n, a1, by rw [e, a2]⟩) this.1
      · exact ih a1 a2 this.2
theorem Nds.iinj (N : Nds w h d ns) {n n' : Nd} (h1 : n ∈ ns) (h2 : n' ∈ ns) (e : n.ia = n'.ia) : n = n' := by
  have a := N.info n h1
  rw [e, N.info n' h2] at a
  simp only [Option.some.injEq, Obj.mk.injEq, Array.mk.injEq, List.cons.injEq, Value.int.injEq] at a
  exact N.key h1 h2 a.2.2.2.1.1.symm
theorem Nds.linj (N : Nds w h d ns) {n n' : Nd} (h1 : n ∈ ns) (h2 : n' ∈ ns) (e : n.la = n'.la) : n = n' := N.key h1 h2 (N.inj n h1 n' h2 e)
theorem Nds.il (N : Nds w h d ns) {n n' : Nd} (h1 : n ∈ ns) (h2 : n' ∈ ns) : n.ia ≠ n'.la := fun e => by
  have a := N.info n h1
  rw [e, N.lst n' h2] at a
  cases a
theorem Nds.id (N : Nds w h d ns) {n : Nd} (h1 : n ∈ ns) : n.ia ≠ d := fun e => by
  have a := N.info n h1
  obtain ⟨o, es, ep, ho, ⟨hc, _⟩, _⟩ := N.dict
  rw [e, ho] at a
  cases a
  cases hc
theorem Nds.ld (N : Nds w h d ns) {n : Nd} (h1 : n ∈ ns) : n.la ≠ d := fun e => by
  have a := N.lst n h1
  obtain ⟨o, es, ep, ho, ⟨hc, _⟩, _⟩ := N.dict
  rw [e, ho] at a
  cases a
  simp at hc
theorem Nds.di (N : Nds w h d ns) {n n' : Nd} (h1 : n ∈ ns) (h2 : n' ∈ ns) : n.da ≠ n'.ia := fun e => by
  have a := N.dd n h1
  rw [e, N.info n' h2] at a
  cases a
theorem Nds.dl (N : Nds w h d ns) {n n' : Nd} (h1 : n ∈ ns) (h2 : n' ∈ ns) : n.da ≠ n'.la := fun e => by
  have a := N.dd n h1
  rw [e, N.lst n' h2] at a
  simp at a
theorem Nds.keeps (N : Nds w h d ns) (hk : ∀ b o, h.get? b = some o → h'.get? b = some o) : Nds w h' d ns :=
  ⟨DictOf.keeps N.dict fun o e => hk _ _ e, fun n m => hk _ _ (N.info n m), fun n m => hk _ _ (N.lst n m), fun n m => hk _ _ (N.dd n m), N.iv, N.li, N.ll, N.lda, N.inj, N.dne, N.len⟩

/-- the node of a key -/
theorem valueAt_some {k : Int} {v : Value} (e : valueAt (kvOf ns) k = some v) : ∃ n ∈ ns, n.k = k ∧ v = .ref n.ia := by
  unfold valueAt at e
  obtain ⟨kv, h1, h2⟩ := Option.map_eq_some_iff.mp e
  have h3 := List.find?_some h1
  obtain ⟨n, hn, rfl⟩ := List.mem_map.mp (List.mem_of_find?_eq_some h1)
  exact ⟨n, hn, by simpa using h3, h2.symm⟩
theorem valueAt_none {k : Int} (e : valueAt (kvOf ns) k = none) : ∀ n ∈ ns, n.k ≠ k := fun n hn q => by
  unfold valueAt at e
  rw [Option.map_eq_none_iff, List.find?_eq_none] at e
  exact e _ (List.mem_map_of_mem hn) (by simpa using q)
theorem Nds.valueAt (N : Nds w h d ns) {n : Nd} (hn : n ∈ ns) : valueAt (kvOf ns) n.k = some (.ref n.ia) := by
  cases e : PySem.valueAt (kvOf ns) n.k with
  | none => exact absurd rfl (valueAt_none e n hn)
  | some v =>
    obtain ⟨n', h1, h2, rfl⟩ := valueAt_some e
    rw [N.key h1 hn h2]

/-- one node changed, its addresses and key kept -/
def setN (ns : List Nd) (k : Int) (f : Nd → Nd) : List Nd := ns.map fun n => if n.k = k then f n else n

structure Same (f : Nd → Nd) : Prop where
  k : ∀ n, (f n).k = n.k
  ia : ∀ n, (f n).ia = n.ia
  la : ∀ n, (f n).la = n.la
  da : ∀ n, (f n).da = n.da

theorem mem_setN {k : Int} {f : Nd → Nd} {n' : Nd} (hm : n' ∈ setN ns k f) : ∃ n ∈ ns, (n.k = k ∧ n' = f n) ∨ (n.k ≠ k ∧ n' = n) := by
  obtain ⟨n, hn, rfl⟩ := List.mem_map.mp hm
  refine ⟨n, hn, ?_⟩
  by_cases q : n.k = k
  · exact .inl ⟨q, if_pos q⟩
  · exact .inr ⟨q, if_neg q⟩
theorem mem_setN_at {k : Int} {f : Nd → Nd} {n : Nd} (hm : n ∈ ns) (e : n.k = k) : f n ∈ setN ns k f := List.mem_map.mpr ⟨n, hm, if_pos e⟩
theorem mem_setN_off {k : Int} {f : Nd → Nd} {n : Nd} (hm : n ∈ ns) (e : n.k ≠ k) : n ∈ setN ns k f := List.mem_map.mpr ⟨n, hm, if_neg e⟩
theorem kv_setN {k : Int} {f : Nd → Nd} (S : Same f) : kvOf (setN ns k f) = kvOf ns := by
  unfold setN kvOf
  rw [List.map_map]
  refine List.map_congr_left fun n _ => ?_
  show ((if n.k = k then f n else n).k, Value.ref (if n.k = k then f n else n).ia) = _
  by_cases q : n.k = k
  · rw [if_pos q, S.k, S.ia]
  · rw [if_neg q]
theorem mem_objs {p : Addr × Obj} (hp : p ∈ objsOf ns) : ∃ n ∈ ns, p = (n.ia, n.info) ∨ p = (n.la, n.lst) ∨ p = (n.da, emptyDict) := by
  obtain ⟨n, hn, hp⟩ := List.mem_flatMap.mp hp
  simp only [List.mem_cons, List.not_mem_nil, or_false] at hp
  exact ⟨n, hn, hp⟩
theorem objs_info {n : Nd} (hn : n ∈ ns) : (n.ia, n.info) ∈ objsOf ns := List.mem_flatMap.mpr ⟨n, hn, .head _⟩
theorem objs_lst {n : Nd} (hn : n ∈ ns) : (n.la, n.lst) ∈ objsOf ns := List.mem_flatMap.mpr ⟨n, hn, .tail _ (.head _)⟩
theorem objs_dd {n : Nd} (hn : n ∈ ns) : (n.da, emptyDict) ∈ objsOf ns := List.mem_flatMap.mpr ⟨n, hn, .tail _ (.tail _ (.head _))⟩

theorem Nds.set (N : Nds w h d ns) {k : Int} {f : Nd → Nd} (S : Same f) (hiv : ∀ n ∈ ns, n.k = k → IntsAre (f n).sv (f n).sn) (hobj : ∀ p ∈ objsOf (setN ns k f), h'.get? p.1 = some p.2) (hdict : h'.DictOf (ik w) d (kvOf ns)) : Nds w h' d (setN ns k f) where
  dict := by rw [kv_setN S]; exact hdict
  info := fun n hn => hobj _ (objs_info hn)
  lst := fun n hn => hobj _ (objs_lst hn)
  dd := fun n hn => hobj _ (objs_dd hn)
  iv := fun n' hn' => by
    obtain ⟨n, hn, ⟨q, rfl⟩ | ⟨q, rfl⟩⟩ := mem_setN hn'
    · exact hiv n hn q
    · exact N.iv n' hn
  li := fun n' hn' => by
    obtain ⟨n, hn, ⟨q, rfl⟩ | ⟨q, rfl⟩⟩ := mem_setN hn'
    · rw [S.ia]; exact N.li n hn
    · exact N.li n' hn
  ll := fun n' hn' => by
    obtain ⟨n, hn, ⟨q, rfl⟩ | ⟨q, rfl⟩⟩ := mem_setN hn'
    · rw [S.la]; exact N.ll n hn
    · exact N.ll n' hn
  lda := fun n' hn' => by
    obtain ⟨n, hn, ⟨q, rfl⟩ | ⟨q, rfl⟩⟩ := mem_setN hn'
    · rw [S.da]; exact N.lda n hn
    · exact N.lda n' hn
  inj := fun a ha b hb e => by
    obtain ⟨n, hn, ⟨q, rfl⟩ | ⟨q, rfl⟩⟩ := mem_setN ha <;> obtain ⟨n2, hn2, ⟨q2, rfl⟩ | ⟨q2, rfl⟩⟩ := mem_setN hb
    · rw [S.la, S.la] at e; rw [S.k, S.k]; exact N.inj n hn n2 hn2 e
    · rw [S.la] at e; rw [S.k]; exact N.inj n hn _ hn2 e
    · rw [S.la] at e; rw [S.k]; exact N.inj _ hn n2 hn2 e
    · exact N.inj _ hn _ hn2 e
  dne := fun n' hn' => by
    obtain ⟨n, hn, ⟨q, rfl⟩ | ⟨q, rfl⟩⟩ := mem_setN hn'
    · rw [S.da]; exact N.dne n hn
    · exact N.dne n' hn
  len := by unfold setN; rw [List.length_map]; exact N.len

/-- the changed node's info is the one object that changes -/
theorem Nds.updInfo (N : Nds w h d ns) {n0 : Nd} (h0 : n0 ∈ ns) {f : Nd → Nd} (S : Same f) (hl : ∀ n, (f n).lst = n.lst) : Upd (objsOf ns) n0.ia (f n0).info (objsOf (setN ns n0.k f)) := fun p hp => by
  obtain ⟨n', hn', hq⟩ := mem_objs hp; clear hp
  obtain ⟨n, hn, ⟨q, rfl⟩ | ⟨q, rfl⟩⟩ := mem_setN hn'
  · have := N.key hn h0 q; subst this
    rcases hq with rfl | rfl | rfl
    · exact .inl (by rw [S.ia])
    · exact .inr ⟨by rw [S.la]; exact (N.il hn hn).symm, by rw [S.la, hl]; exact objs_lst hn⟩
    · exact .inr ⟨by rw [S.da]; exact N.di hn hn, by rw [S.da]; exact objs_dd hn⟩
  · rcases hq with rfl | rfl | rfl
    · exact .inr ⟨fun e => q (by rw [N.iinj hn h0 e]), objs_info hn⟩
    · exact .inr ⟨(N.il h0 hn).symm, objs_lst hn⟩
    · exact .inr ⟨N.di hn h0, objs_dd hn⟩
theorem Nds.updLst (N : Nds w h d ns) {n0 : Nd} (h0 : n0 ∈ ns) {f : Nd → Nd} (S : Same f) (hl : ∀ n, (f n).info = n.info) : Upd (objsOf ns) n0.la (f n0).lst (objsOf (setN ns n0.k f)) := fun p hp => by
  obtain ⟨n', hn', hq⟩ := mem_objs hp; clear hp
  obtain ⟨n, hn, ⟨q, rfl⟩ | ⟨q, rfl⟩⟩ := mem_setN hn'
  · have := N.key hn h0 q; subst this
    rcases hq with rfl | rfl | rfl
    · exact .inr ⟨by rw [S.ia]; exact N.il hn hn, by rw [S.ia, hl]; exact objs_info hn⟩
    · exact .inl (by rw [S.la])
    · exact .inr ⟨by rw [S.da]; exact N.dl hn hn, by rw [S.da]; exact objs_dd hn⟩
  · rcases hq with rfl | rfl | rfl
    · exact .inr ⟨N.il hn h0, objs_info hn⟩
    · exact .inr ⟨fun e => q (by rw [N.linj hn h0 e]), objs_lst hn⟩
    · exact .inr ⟨N.dl hn h0, objs_dd hn⟩

/-- an Upd among more objects -/
theorem Upd.amid {pre mid mid' post : List (Addr × Obj)} {a : Addr} {o' : Obj} (u : Upd mid a o' mid') (h1 : ∀ p ∈ pre, p.1 ≠ a) (h2 : ∀ p ∈ post, p.1 ≠ a) : Upd (pre ++ (mid ++ post)) a o' (pre ++ (mid' ++ post)) := fun p hp => by
  rcases List.mem_append.mp hp with q | q
  · exact .inr ⟨h1 p q, List.mem_append_left _ q⟩
  · rcases List.mem_append.mp q with q | q
    · rcases u p q with e | ⟨e, r⟩
      · exact .inl e
      · exact .inr ⟨e, List.mem_append_right _ (List.mem_append_left _ r)⟩
    · exact .inr ⟨h2 p q, List.mem_append_right _ (List.mem_append_right _ q)⟩

/-- a node more -/
theorem Nds.more (N : Nds w h d ns) {n : Nd} (hdict : h'.DictOf (ik w) d (kvOf ns ++ [(n.k, .ref n.ia)])) (hk : ∀ b o, h.get? b = some o → b ≠ d → h'.get? b = some o) (hi : h'.get? n.ia = some n.info) (hl : h'.get? n.la = some n.lst) (hdd : h'.get? n.da = some emptyDict)
    (hiv : IntsAre n.sv n.sn) (li : 181 ≤ n.ia) (ll : 181 ≤ n.la) (lda : 181 ≤ n.da) (hd : n.da ≠ d) (hnew : h.get? n.la = none) (hlen : ns.length < 90) : Nds w h' d (ns ++ [n]) where
  dict := by unfold kvOf at hdict ⊢; rw [List.map_append]; exact hdict
  info := fun x hx => by
    rcases List.mem_append.mp hx with q | q
    · exact hk _ _ (N.info x q) (N.id q)
    · rcases List.mem_singleton.mp q with rfl; exact hi
  lst := fun x hx => by
    rcases List.mem_append.mp hx with q | q
    · exact hk _ _ (N.lst x q) (N.ld q)
    · rcases List.mem_singleton.mp q with rfl; exact hl
  dd := fun x hx => by
    rcases List.mem_append.mp hx with q | q
    · exact hk _ _ (N.dd x q) (N.dne x q)
    · rcases List.mem_singleton.mp q with rfl; exact hdd
  iv := fun x hx => by
    rcases List.mem_append.mp hx with q | q
    · exact N.iv x q
    · rcases List.mem_singleton.mp q with rfl; exact hiv
  li := fun x hx => by
    rcases List.mem_append.mp hx with q | q
    · exact N.li x q
    · rcases List.mem_singleton.mp q with rfl; exact li
  ll := fun x hx => by
    rcases List.mem_append.mp hx with q | q
    · exact N.ll x q
    · rcases List.mem_singleton.mp q with rfl; exact ll
  lda := fun x hx => by
    rcases List.mem_append.mp hx with q | q
    · exact N.lda x q
    · rcases List.mem_singleton.mp q with rfl; exact lda
  inj := fun x hx y hy e => by
    rcases List.mem_append.mp hx with q | q <;> rcases List.mem_append.mp hy with r | r
    · exact N.inj x q y r e
    · rcases List.mem_singleton.mp r with rfl
      have := N.lst x q; rw [e, hnew] at this; cases this
    · rcases List.mem_singleton.mp q with rfl
      have := N.lst y r; rw [← e, hnew] at this; cases this
    · rcases List.mem_singleton.mp q with rfl; rcases List.mem_singleton.mp r with rfl; rfl
  dne := fun x hx => by
    rcases List.mem_append.mp hx with q | q
    · exact N.dne x q
    · rcases List.mem_singleton.mp q with rfl; exact hd
  len := by rw [List.length_append, List.length_singleton]; omega
end
end Mine

namespace Mine
/-- what the nodes say: key, count, successors -/
abbrev Ct := List (Int × Int × List Int)
def ct (ns : List Nd) : Ct := ns.map fun n => (n.k, n.np, n.sn)
def ensure (c : Ct) (k : Int) : Ct := if c.any (fun e => decide (e.1 = k)) then c else c ++ [(k, 0, [])]
def bump (c : Ct) (k δ : Int) : Ct := c.map fun e => if e.1 = k then (e.1, e.2.1 + δ, e.2.2) else e
def app1 (c : Ct) (p k : Int) : Ct := c.map fun e => if e.1 = p then (e.1, e.2.1, e.2.2 ++ [k]) else e

theorem ct_setN {ns : List Nd} {k : Int} {f : Nd → Nd} {F : Int × Int × List Int → Int × Int × List Int} (hF : ∀ n, ((f n).k, (f n).np, (f n).sn) = F (n.k, n.np, n.sn)) : ct (setN ns k f) = (ct ns).map fun e => if e.1 = k then F e else e := by
  unfold ct setN
  rw [List.map_map, List.map_map]
  refine List.map_congr_left fun n _ => ?_
  show ((if n.k = k then f n else n).k, (if n.k = k then f n else n).np, (if n.k = k then f n else n).sn) = if n.k = k then F (n.k, n.np, n.sn) else (n.k, n.np, n.sn)
  by_cases q : n.k = k
  · rw [if_pos q, if_pos q, hF]
  · rw [if_neg q, if_neg q]

section
variable {w : World} {mg mb : Str → Option Value} {g : Heap} {L : Addr} {D : List Addr} {m : Str → Option Value} {own rest : List (Addr × Obj)} {s : Shared} {A : Around} {E : Value → Shared → Prop}
  {t1 t2 t3 t4 : Tok} {vN vR vP vF : Value} {x dx d : Addr} {n : Nat} {ns : List Nd} {od : Obj} {k : Int} {t : Tok}

theorem gni_in {Q : Value → Shared → Prop} (C : Cx w mg mb g L D m ((d, od) :: (objsOf ns ++ rest)) s.heap) (N : Nds w s.heap d ns) (hx : s.heap.get? x = some (instObj 137 dx)) (hdx : s.heap.get? dx = some (dictOf (sEnt w t1 t2 t3 t4 (.ref d) vR vP vF) n))
    (hlow : 181 ≤ d) (hne : d ≠ x) (hne' : d ≠ dx) (hbig : 181 ≤ s.heap.objs.size) (hroom : A.depth + 4 < recursionLimit) (hlen : ns.length < 90) (hrest : ∀ p ∈ rest, p.1 ≠ d)
    (h : ∀ h' ns' n od' tk, Cx w mg mb g L D m ((d, od') :: (objsOf ns' ++ rest)) h' → Nds w h' d ns' → n ∈ ns' → n.k = k → ct ns' = ensure (ct ns) k → ns'.length ≤ ns.length + 1 → (∀ b o, s.heap.get? b = some o → b ≠ d → h'.get? b = some o) → Q (.ref n.ia) { s with heap := h', toks := tk }) :
    wpAny (model pg w) A (call (.ref 80) [.ref x, .int k t]) Q E s := by
  refine wpAny_call (gni_spec C.G hroom hbig hx hdx N.dict hlow hne hne' (by rw [List.length_map]; exact ar56 hlen) ?_ ?_ ?_)
  · intro a ha h' tk hk
    obtain ⟨n, hn, hk1, e⟩ := valueAt_some ha
    cases e
    refine h h' ns n od tk (C.call0 hk) (N.keeps hk) hn hk1 ?_ (Nat.le_succ _) fun b o e _ => hk b o e
    unfold ensure
    rw [if_pos]
    exact List.any_eq_true.mpr ⟨_, List.mem_map_of_mem hn, by simpa using hk1⟩
  · intro v hv
    obtain ⟨n, hn, _, rfl⟩ := valueAt_some hv
    exact ⟨_, rfl⟩
  · intro hv h' xi dd la tk tn hk hD k2 k3 k4 k5 k6 k7
    obtain ⟨od', es, ep, hod, rd⟩ := hD
    have hd0 : s.heap.objs.size > d := C.lt (.head _)
    let nn : Nd := { k := k, np := 0, sn := [], sv := [], ia := xi, da := dd, la := la, tn := t, tp := tn, ep := 0 }
    have N' : Nds w h' d (ns ++ [nn]) := N.more (n := nn) ⟨od', es, ep, hod, rd⟩ hk k7 k6 k5 .nil (by show 181 ≤ xi; exact ar57 hbig k2 k3) (by show 181 ≤ la; exact ar58 hbig k2 k3 k4) (by show 181 ≤ dd; exact ar59 hbig k2) (Nat.ne_of_gt (Nat.lt_of_lt_of_le hd0 k2)) (none_of_ge (by show _ ≤ la; exact ar60 k2 k3 k4)) hlen
    refine h h' (ns ++ [nn]) nn od' tk ?_ N' (List.mem_append_right _ (.head _)) rfl ?_ (by rw [List.length_append]; exact Nat.le_refl _) hk
    · refine C.call (D' := [d]) (fun b o e q => hk b o e (by simpa using q)) (fun a ha => by rcases List.mem_singleton.mp ha with rfl; exact ⟨od, .head _⟩) fun p hp => ?_
      rcases List.mem_cons.mp hp with rfl | hp
      · exact .inr ⟨hod, .inl (.head _)⟩
      · rcases List.mem_append.mp hp with hp | hp
        · rw [objsOf, List.flatMap_append] at hp
          rcases List.mem_append.mp hp with hp | hp
          · refine .inl ⟨List.mem_cons_of_mem _ (List.mem_append_left _ hp), ?_⟩
            obtain ⟨n0, hn0, rfl | rfl | rfl⟩ := mem_objs hp
            · simpa using N.id hn0
            · simpa using N.ld hn0
            · simpa using N.dne n0 hn0
          · simp only [List.flatMap_cons, List.flatMap_nil, List.append_nil, List.mem_cons, List.not_mem_nil, or_false] at hp
            rcases hp with rfl | rfl | rfl
            · exact .inr ⟨k7, .inr (none_of_ge (Nat.le_trans k2 (Nat.le_of_lt k3)))⟩
            · exact .inr ⟨k6, .inr (none_of_ge (Nat.le_trans k2 (Nat.le_of_lt (Nat.lt_trans k3 k4))))⟩
            · exact .inr ⟨k5, .inr (none_of_ge k2)⟩
        · exact .inl ⟨List.mem_cons_of_mem _ (List.mem_append_right _ hp), by simpa using hrest p hp⟩
    · unfold ensure
      rw [if_neg, ct, List.map_append]
      · rfl
      · intro q
        obtain ⟨e, he, q⟩ := List.any_eq_true.mp q
        obtain ⟨n0, hn0, rfl⟩ := List.mem_map.mp he
        exact valueAt_none hv n0 hn0 (by simpa using q)
end
end Mine

namespace Mine
section
variable {w : World} {mg mb : Str → Option Value} {g : Heap} {L f : Addr} {D : List Addr} {m : Str → Option Value} {own rest : List (Addr × Obj)} {s : Shared} {A : Around} {E : Value → Shared → Prop}
  {t1 t2 t3 t4 : Tok} {vN vR vP vF : Value} {x dx d : Addr} {n : Nat} {ns : List Nd} {od : Obj} {k : Int} {t : Tok}
theorem Upd.last {l : List (Addr × Obj)} {a : Addr} {o o' : Obj} (h : ∀ p ∈ l, p.1 ≠ a) : Upd (l ++ [(a, o)]) a o' (l ++ [(a, o')]) := fun p hp => by
  rcases List.mem_append.mp hp with q | q
  · exact .inr ⟨h p q, List.mem_append_left _ q⟩
  · exact .inl (List.mem_singleton.mp q)

/-- a method of the sorter's class by its name -/
theorem me_fn {Q : Value × List Value → Shared → Prop} {name : Str} {fa : Addr} {es : List DictEntry} {pl : Sem Bool} (G : Gd w mg mb s.heap) (hx : s.heap.get? x = some (instObj 137 dx)) (hdx : s.heap.get? dx = some (dictOf es n))
    (hf : findIn (Kf w) (.ref 137) name = some (some (.ref fa))) (ht : typeIn (Kf w) (.ref fa) = some (.type "function")) (hs : shadowIn (some (dictOf es n)) name = some false) (h : Q (.ref fa, [.ref x]) s) : wpAny (model pg w) A (getMethod (.ref x) name pl) Q E s :=
  method_fn G.X (⟨hx, rfl, rfl, hdx⟩ : W.InstAt s.heap x (instObj 137 dx) 137 (some (dictOf es n))) (by with_unfolding_all rfl) (by with_unfolding_all rfl) hf ht hs h

theorem slotRead {Q : Value → Shared → Prop} {a dd p : Addr} {vn vp vs v : Value} {name : Str} {b : Bool} {i : Nat} (G : Gd w mg mb s.heap) (h1 : s.heap.get? a = some (infoObj dd vn vp vs)) (h2 : s.heap.get? dd = some emptyDict)
    (hf : findObj (Kf w) 40 (some emptyDict) name = some (.bind (.builtin "member_descriptor.__get__") (.ref p))) (hp : slotIn (Kf w) p 40 = some i) (hv : ((#[some vn, some vp, some vs] : Array (Option Value))[i]?).join = some v) (h : Q v { s with toks := s.toks + 1 }) (hh : handedIn v = true := by rfl) :
    wpAny (model pg w) A (getAttr (.ref a) name b) Q E s := by
  have I : W.InstAt s.heap a (infoObj dd vn vp vs) 40 (some emptyDict) := ⟨h1, rfl, rfl, h2⟩
  refine get_bind G.X I (by with_unfolding_all rfl) hf (by with_unfolding_all rfl) ?_
  refine wpAny_call (slot_get (s := { s with toks := s.toks + 1 }) G.X I hp hv ?_)
  show wpAny _ _ (handedOut v) _ _ _
  rw [handedOut_of hh]; exact wpAny_pure h
theorem rd_node : findObj (Kf w) 40 (some emptyDict) "node" = some (.bind (.builtin "member_descriptor.__get__") (.ref 41)) := by with_unfolding_all rfl
theorem rd_np : findObj (Kf w) 40 (some emptyDict) "npredecessors" = some (.bind (.builtin "member_descriptor.__get__") (.ref 42)) := by with_unfolding_all rfl
theorem rd_sc : findObj (Kf w) 40 (some emptyDict) "successors" = some (.bind (.builtin "member_descriptor.__get__") (.ref 43)) := by with_unfolding_all rfl

theorem Nds.cx {h h' g' : Heap} {L' : Addr} {D' : List Addr} {m' : Str → Option Value} {rest' : List (Addr × Obj)} (N : Nds w h d ns) (C : Cx w mg mb g L D m ((d, od) :: (objsOf ns ++ rest)) h) (C' : Cx w mg mb g' L' D' m' ((d, od) :: (objsOf ns ++ rest')) h') : Nds w h' d ns where
  dict := by
    obtain ⟨o, es, ep, ho, r⟩ := N.dict
    have e := C.get (a := d) (.head _)
    rw [ho] at e; cases e
    exact ⟨_, es, ep, C'.get (.head _), r⟩
  info := fun n hn => C'.get (List.mem_cons_of_mem _ (List.mem_append_left _ (objs_info hn)))
  lst := fun n hn => C'.get (List.mem_cons_of_mem _ (List.mem_append_left _ (objs_lst hn)))
  dd := fun n hn => C'.get (List.mem_cons_of_mem _ (List.mem_append_left _ (objs_dd hn)))
  iv := N.iv
  li := N.li
  ll := N.ll
  lda := N.lda
  inj := N.inj
  dne := N.dne
  len := N.len

/-- the count of a node changed -/
theorem set_np {Q : Unit → Shared → Prop} {n0 : Nd} {v : Int} {tv : Tok} (C : Cx w mg mb g L D m ((d, od) :: (objsOf ns ++ rest)) s.heap) (N : Nds w s.heap d ns) (h0 : n0 ∈ ns) (hr : ∀ p ∈ rest, p.1 ≠ n0.ia)
    (h : ∀ h', Cx w mg mb g L D m ((d, od) :: (objsOf (setN ns n0.k fun n => { n with np := v, tp := tv }) ++ rest)) h' → Nds w h' d (setN ns n0.k fun n => { n with np := v, tp := tv }) → Q () { s with heap := h', toks := s.toks + 1 }) :
    wpAny (model pg w) A (setAttr (.ref n0.ia) "npredecessors" (.int v tv)) Q E s := by
  have S : Same fun n : Nd => { n with np := v, tp := tv } := ⟨fun _ => rfl, fun _ => rfl, fun _ => rfl, fun _ => rfl⟩
  have hm : (n0.ia, n0.info) ∈ (d, od) :: (objsOf ns ++ rest) := List.mem_cons_of_mem _ (List.mem_append_left _ (objs_info h0))
  refine set_slot (ox' := ({ n0 with np := v, tp := tv } : Nd).info) C hm rfl rfl rfl (N.dd n0 h0) tk_np sl_np (by decide) rfl rfl fun h' C' => ?_
  have C2 : Cx w mg mb g L D m ((d, od) :: (objsOf (setN ns n0.k fun n => { n with np := v, tp := tv }) ++ rest)) h' := C' _ (Upd.amid (pre := [(d, od)]) (N.updInfo h0 S fun _ => rfl) (fun p hp => by rcases List.mem_singleton.mp hp with rfl; exact (N.id h0).symm) hr)
  refine h h' C2 (N.set S (fun n hn _ => N.iv n hn) (fun p hp => C2.get (List.mem_cons_of_mem _ (List.mem_append_left _ hp))) ?_)
  obtain ⟨o, es, ep, ho, r⟩ := N.dict
  have e := C.get (a := d) (.head _)
  rw [ho] at e; cases e
  exact ⟨_, es, ep, C2.get (.head _), r⟩

/-- a successor appended -/
theorem app_sc {Q : Value → Shared → Prop} {n0 : Nd} {v : Int} {tv : Tok} (C : Cx w mg mb g L D m ((d, od) :: (objsOf ns ++ rest)) s.heap) (N : Nds w s.heap d ns) (h0 : n0 ∈ ns) (hr : ∀ p ∈ rest, p.1 ≠ n0.la) (hlen : n0.sv.length ≤ 1000)
    (h : ∀ h' ep, Cx w mg mb g L D m ((d, od) :: (objsOf (setN ns n0.k fun n => { n with sn := n.sn ++ [v], sv := n.sv ++ [.int v tv], ep := ep }) ++ rest)) h' → Nds w h' d (setN ns n0.k fun n => { n with sn := n.sn ++ [v], sv := n.sv ++ [.int v tv], ep := ep }) → Q .none { s with heap := h' }) :
    wpAny (model pg w) A (call (.builtin "list.append") [.ref n0.la, .int v tv]) Q E s := by
  have hl : s.heap.PlainList n0.la n0.sv.toArray := ⟨n0.ep, N.lst n0 h0⟩
  have hm : (n0.la, n0.lst) ∈ (d, od) :: (objsOf ns ++ rest) := List.mem_cons_of_mem _ (List.mem_append_left _ (objs_lst h0))
  refine wpAny_list_append_plain hl (fun h' hl' sb => ?_) (by rw [sizeLine_eq, List.size_toArray]; exact ar1 hlen)
  obtain ⟨ep, hl'⟩ := hl'
  have S : Same fun n : Nd => { n with sn := n.sn ++ [v], sv := n.sv ++ [.int v tv], ep := ep } := ⟨fun _ => rfl, fun _ => rfl, fun _ => rfl, fun _ => rfl⟩
  have C2 : Cx w mg mb g L D m ((d, od) :: (objsOf (setN ns n0.k fun n => { n with sn := n.sn ++ [v], sv := n.sv ++ [.int v tv], ep := ep }) ++ rest)) h' :=
    C.chg hm sb (by simpa using hl') (Upd.amid (pre := [(d, od)]) (N.updLst h0 S fun _ => rfl) (fun p hp => by rcases List.mem_singleton.mp hp with rfl; exact (N.ld h0).symm) hr)
  refine h h' ep C2 (N.set S (fun n hn _ => (N.iv n hn).append (.cons v tv .nil)) (fun p hp => C2.get (List.mem_cons_of_mem _ (List.mem_append_left _ hp))) ?_)
  obtain ⟨o, es, ep, ho, r⟩ := N.dict
  have e := C.get (a := d) (.head _)
  rw [ho] at e; cases e
  exact ⟨_, es, ep, C2.get (.head _), r⟩
end
end Mine

namespace Mine
section
variable {w : World} {mg mb : Str → Option Value} {s : Shared} {A : Around} {E : Value → Shared → Prop}
  {t1 t2 t3 t4 : Tok} {vN vR vP vF : Value} {x dx d : Addr} {n : Nat} {ns : List Nd} {od : Obj} {k : Int} {t : Tok}
theorem wpAny_of_eq' {α : Type} {M : Model} {A : Around} {t t' : Sem α} {Q : α → Shared → Prop} {E : Value → Shared → Prop} {s : Shared} (e : t = t') (h : wpAny M A t' Q E s) : wpAny M A t Q E s := e ▸ h
theorem ia_get : ∀ {vs : List Value} {ns : List Int} {i : Nat} {v : Value}, IntsAre vs ns → vs[i]? = some v → ∃ n t, ns[i]? = some n ∧ v = .int n t
  | _, _, i, v, .nil, e => by cases e
  | _, _, 0, v, .cons n t r, e => ⟨n, t, rfl, by simpa using e.symm⟩
  | _, _, i + 1, v, .cons n t r, e => ia_get (i := i) r (by simpa using e)
theorem len_setN {ns : List Nd} {k : Int} {f : Nd → Nd} : (setN ns k f).length = ns.length := List.length_map ..
theorem take_snoc {l : List Int} {i : Nat} {p : Int} (e : l[i]? = some p) : l.take (i + 1) = l.take i ++ [p] := by
  rw [List.take_add_one, e]; rfl
theorem mem_ct {ns : List Nd} {n : Nd} (h : n ∈ ns) : (n.k, n.np, n.sn) ∈ ct ns := List.mem_map.mpr ⟨n, h, rfl⟩
theorem ensure_all {c : Ct} {k : Int} {P : Int × Int × List Int → Prop} (h : ∀ e ∈ c, P e) (h0 : P (k, 0, [])) : ∀ e ∈ ensure c k, P e := fun e he => by
  unfold ensure at he
  split at he
  · exact h e he
  · rcases List.mem_append.mp he with q | q
    · exact h e q
    · rcases List.mem_singleton.mp q with rfl; exact h0
theorem ct_all {ns : List Nd} {P : Int × Int × List Int → Prop} (h : ∀ n ∈ ns, P (n.k, n.np, n.sn)) : ∀ e ∈ ct ns, P e := fun e he => by
  obtain ⟨n, hn, rfl⟩ := List.mem_map.mp he; exact h n hn
def addF (c : Ct) (k : Int) (ps : List Int) : Ct := ps.foldl (fun c p => app1 (ensure c p) p k) (bump (ensure c k) k ps.length)

structure AddI (w : World) (mg mb : Str → Option Value) (s : Shared) (gg : Heap) (D : List Addr) (d x it : Addr) (pvl : Nat) (k : Int) (t : Tok) (ps : List Int) (c0 : Ct) (j : Nat) (s' : Shared) (i : Nat) (h' : Heap) (tk : Nat) (m' : Str → Option Value) (ns' : List Nd) (od' oi : Obj) : Prop where
  hs : s' = { s with heap := h', toks := tk }
  hj : j + i = pvl
  C : Cx w mg mb gg gg.objs.size D m' ((d, od') :: (objsOf ns' ++ [(it, oi)])) h'
  hc : oi.cls = .type "tuple_iterator"
  hd : oi.data = .fields #[.ref s.heap.objs.size, .int (i : Nat) 0]
  N : Nds w h' d ns'
  hm1 : m' "self" = some (.ref x)
  hm2 : m' "node" = some (.int k t)
  hct : ct ns' = (ps.take i).foldl (fun c p => app1 (ensure c p) p k) c0
  hl : ns'.length ≤ 81 + i
  hn : ∀ n ∈ ns', n.sn.length ≤ 900 + i
theorem add_spec {R : Result → Shared → Prop} {pv : List Value} {ps : List Int} (G : Gd w mg mb s.heap) (hh : A.handled = none) (hroom : A.depth + 5 < recursionLimit) (hbig : 181 ≤ s.heap.objs.size)
    (hx : s.heap.get? x = some (instObj 137 dx)) (hdx : s.heap.get? dx = some (dictOf (sEnt w t1 t2 t3 t4 (.ref d) .none vP vF) n)) (N : Nds w s.heap d ns) (hlow : 181 ≤ d) (hne' : d ≠ dx)
    (hdn : ∀ n ∈ ns, dx ≠ n.da) (hps : IntsAre pv ps) (hpl : ps.length ≤ 2) (hlen : ns.length ≤ 80) (hsl : ∀ n ∈ ns, n.sn.length ≤ 900)
    (h : ∀ h' ns' tk, Nds w h' d ns' → ct ns' = addF (ct ns) k ps → (∀ b o, s.heap.get? b = some o → b ∉ d :: (objsOf ns).map (·.1) → h'.get? b = some o) → (∀ p ∈ objsOf ns', p.1 ∈ d :: (objsOf ns).map (·.1) ∨ s.heap.get? p.1 = none) →
      R (.ok (.ret .none)) { s with heap := h', toks := tk }) :
    codeAny (model pg w) A (.call (.ref 87) ⟨.ref x :: .int k t :: pv, []⟩) R s := by
  have hpv : pv.length ≤ 2 := by have := hps.length; exact ar140 hpl this
  refine enterV (vs := pv) (binds := [("self", .ref x), ("node", .int k t), ("predecessors", .ref s.heap.objs.size)]) G (by exact ar52 hroom) rfl (by with_unfolding_all rfl) ?_ rfl rfl rfl rfl rfl ?_
  · intro M A' E' Q hq
    refine wpAny_of_eq' (bind_var (vs1 := [.ref x, .int k t]) (vs := pv) (by rfl) (by rfl) (by rfl) (by rfl) (by with_unfolding_all rfl)) ?_
    exact wpAny_bind (wpAny_newTuple (wpAny_pure hq) (by rw [sizeLine_eq]; exact ar141 hpv))
  intro h₁ hns hk J₀ E₀ hJ₀ hN₀
  obtain ⟨od, es0, ep0, hod, rod⟩ := N.dict
  have hg : ∀ b o, s.heap.get? b = some o → (s.heap.push (tupOf pv)).get? b = some o := fun b o e => Heap.get?_push_of_some _ e
  have htup : (s.heap.push (tupOf pv)).get? s.heap.objs.size = some (tupOf pv) := Heap.get?_push_size _ rfl
  have C := Cx.start (G.keeps fun b o _ e => hg b o e) hns hk ((d, od) :: objsOf ns) (fun p hp => by
    rcases List.mem_cons.mp hp with rfl | hp
    · exact ⟨hg _ _ hod, hlow⟩
    · obtain ⟨n, hn, rfl | rfl | rfl⟩ := mem_objs hp
      · exact ⟨hg _ _ (N.info n hn), N.li n hn⟩
      · exact ⟨hg _ _ (N.lst n hn), N.ll n hn⟩
      · exact ⟨hg _ _ (N.dd n hn), N.lda n hn⟩)
  rw [← List.append_nil (objsOf ns)] at C
  -- what is not among them
  have out : ∀ b o, s.heap.get? b = some o → o.cls ≠ .type "dict" → o.cls ≠ .ref 40 → o.cls ≠ .type "list" → b ∉ ((d, od) :: (objsOf ns ++ [])).map (·.1) := fun b o e h1 h2 h3 q => by
    rw [List.append_nil] at q
    obtain ⟨p, hp, rfl⟩ := List.mem_map.mp q
    rcases List.mem_cons.mp hp with rfl | hp
    · rw [hod] at e; cases e; exact h1 rod.1.1
    · obtain ⟨n, hn, rfl | rfl | rfl⟩ := mem_objs hp
      · rw [N.info n hn] at e; cases e; exact h2 rfl
      · rw [N.lst n hn] at e; cases e; exact h3 rfl
      · rw [N.dd n hn] at e; cases e; exact h1 rfl
  have xD := out x _ hx (by simp) (by simp) (by simp)
  have dxD : dx ∉ ((d, od) :: (objsOf ns ++ [])).map (·.1) := fun q => by
    rw [List.append_nil] at q
    obtain ⟨p, hp, e⟩ := List.mem_map.mp q
    rcases List.mem_cons.mp hp with rfl | hp
    · exact hne' e
    · obtain ⟨n, hn, rfl | rfl | rfl⟩ := mem_objs hp
      · have e : n.ia = dx := e
        have := N.info n hn; rw [e, hdx] at this; cases this
      · have e : n.la = dx := e
        have := N.lst n hn; rw [e, hdx] at this; simp at this
      · exact hdn n hn e.symm
  have tD : s.heap.objs.size ∉ ((d, od) :: (objsOf ns ++ [])).map (·.1) := fun q => by
    rw [List.append_nil] at q
    obtain ⟨p, hp, e⟩ := List.mem_map.mp q
    have : ∃ o, s.heap.get? p.1 = some o := by
      rcases List.mem_cons.mp hp with rfl | hp
      · exact ⟨_, hod⟩
      · obtain ⟨n, hn, rfl | rfl | rfl⟩ := mem_objs hp
        · exact ⟨_, N.info n hn⟩
        · exact ⟨_, N.lst n hn⟩
        · exact ⟨_, N.dd n hn⟩
    obtain ⟨o, ho⟩ := this
    exact absurd (Heap.lt_size ho) (by rw [e]; exact Nat.lt_irrefl _)
  have hne : d ≠ x := fun e => by rw [← e, hod] at hx; cases hx; cases rod.1.1
  have gbig : 181 ≤ (s.heap.push (tupOf pv)).objs.size := Nat.le_trans hbig (by rw [Heap.size_push]; exact Nat.le_succ _)
  have big : ∀ {D m own h'}, Cx w mg mb (s.heap.push (tupOf pv)) (s.heap.push (tupOf pv)).objs.size D m own h' → 181 ≤ h'.objs.size := fun C => Nat.le_trans gbig (Nat.le_of_lt C.ns.lt)
  have N1 : Nds w h₁ d ns := N.keeps fun b o e => hk b o (hg b o e)
  refine wpAny_execs_cons (wpAny_If (wpAny_isTrue_Compare1 (Attribute_any_ (n_loc C rfl (a_dict C.G (C.keep (hg _ _ hx) xD) (C.keep (hg _ _ hdx) dxD) fR ?_)))))
  refine wpAny_Constant_none (isNot_none (wpAny_truthy_bool (wpAny_execs_nil ?_)))
  refine wpAny_execs_cons (wpAny_Assign_Name (MethodCall_ (n_loc C rfl (me_fn C.G (C.keep (hg _ _ hx) xD) (C.keep (hg _ _ hdx) dxD) (by with_unfolding_all rfl) (by with_unfolding_all rfl) (by with_unfolding_all rfl) ?_))))
  refine callWith_K C.G.X (by with_unfolding_all rfl) (wpAny_items_cons (n_loc C rfl (wpAny_items_nil ⟨C.G.X, ?_⟩)))
  refine gni_in C N1 (C.keep (hg _ _ hx) xD) (C.keep (hg _ _ hdx) dxD) hlow hne hne' (big C) (by show A.depth + 1 + 4 < _; exact ar142 hroom) (by exact ar143 hlen) (fun _ q => nomatch q) ?_
  intro h2 ns2 n2 od2 tk2 C2 N2 hn2 hk2 hct2 hl2 _
  refine s_loc C2 fun h3 C3 => flat s fun _ => ?_
  have N3 := N2.cx C2 C3
  refine wpAny_execs_cons (wpAny_AugAssign_AttributeAny (n_loc C3 rfl (slotRead C3.G (N3.info n2 hn2) (N3.dd n2 hn2) rd_np sl_np rfl ?_)))
  refine Call_ (n_built (v := .builtin "len") C3 (by with_unfolding_all rfl) boot_len (by decide) ?_)
  refine PyProof.Rows.callWith_builtin1 (wpAny_items_cons (n_loc C3 rfl (wpAny_items_nil ?_)))
  have ht3 := C3.keep htup tD
  refine PyProof.Rows.len_tuple ⟨_, ht3, rfl, _, rfl⟩ (by rw [List.size_toArray]; exact ar144 hpv) ?_
  refine PyProof.Rows.iadd_int ?_
  refine set_np C3 N3 hn2 (fun _ q => nomatch q) fun h4 C4 N4 => ?_
  refine wpAny_execs_cons (wpAny_For (n_loc C4 rfl (wpAny_pyIter_tuple ⟨_, C4.keep htup tD, rfl, _, rfl⟩ ?_)))
  have C5 := C4.push { cls := .type "tuple_iterator", data := .fields #[.ref s.heap.objs.size, .int 0 0] }
  let gg := s.heap.push (tupOf pv)
  let stepF : Ct → Int → Ct := fun c p => app1 (ensure c p) p k
  let c0 : Ct := bump (ensure (ct ns) k) k ps.length
  refine forL (fun j s' => ∃ i h' tk m' ns' od' oi, AddI w mg mb s gg (((d, od) :: (objsOf ns ++ [])).map (·.1)) d x h4.objs.size pv.length k t ps c0 j s' i h' tk m' ns' od' oi) ?_ pv.length ?_
  · rintro j s' J F₁ E₁ ⟨i, h', tk, m', ns', od', oi, rfl, hj, C, hc, hd, N', hm1, hm2, hct, hl, hs⟩ hJ hF hV
    have hit : h'.IsTupleIter h4.objs.size s.heap.objs.size i := ⟨oi, C.get (List.mem_cons_of_mem _ (List.mem_append_right _ (.head _))), hc, hd⟩
    have htt : h'.IsTuple s.heap.objs.size pv.toArray := ⟨_, C.keep htup tD, rfl, _, rfl⟩
    have itne : ∀ p ∈ (d, od') :: objsOf ns', p.1 ≠ h4.objs.size := fun p hp e => by
      have e1 := C.get (List.mem_cons_of_mem _ (List.mem_append_right _ (.head _)) : (h4.objs.size, oi) ∈ _)
      have e2 := C.nw p (by rcases List.mem_cons.mp hp with rfl | hp; exact .head _; exact List.mem_cons_of_mem _ (List.mem_append_left _ hp))
      rw [e, e1] at e2
      have e2 := Option.some.inj e2.1
      subst e2
      rcases List.mem_cons.mp hp with q | hp
      · obtain ⟨o, es, ep, ho, ⟨z, _⟩, _⟩ := N'.dict
        have e3 := C.get (a := d) (.head _)
        rw [ho] at e3; cases e3
        rw [q] at hc
        rw [show od'.cls = _ from hc] at z; simp at z
      · obtain ⟨n, hn, rfl | rfl | rfl⟩ := mem_objs hp <;> simp at hc
    have hit' : (h4.objs.size, oi) ∈ (d, od') :: (objsOf ns' ++ [(h4.objs.size, oi)]) := List.mem_cons_of_mem _ (List.mem_append_right _ (.head _))
    cases hv : pv[i]? with
    | none =>
      refine wpAny_pyNext_tuple_end hh hit htt (by simpa using hv) fun h5 ext => ?_
      have hi : i = ps.length := by
        have := hps.length
        have := List.getElem?_eq_none_iff.mp hv
        omega
      have C6 : Cx w mg mb gg gg.objs.size _ m' ((d, od') :: (objsOf ns' ++ [])) h5 := C.call (D' := [h4.objs.size]) (fun b o e q => ext b o (by simpa using q) e) (fun a ha => by rcases List.mem_singleton.mp ha with rfl; exact ⟨oi, hit'⟩)
        fun p hp => by
          rw [List.append_nil] at hp
          refine .inl ⟨?_, by simpa using itne p hp⟩
          rcases List.mem_cons.mp hp with rfl | hp
          · exact .head _
          · exact List.mem_cons_of_mem _ (List.mem_append_left _ hp)
      refine (hF _ (wpAny_execs_nil ?_)).1
      have N6 := N'.cx C C6
      rw [hi, List.take_length] at hct
      refine hN₀ _ (h h5 ns' _ N6 hct (fun b o e q => C6.keep (hg _ _ e) (by rw [List.append_nil]; simpa using q)) fun p hp => ?_)
      have := C6.no (a := p.1) (o := p.2) (by rw [List.append_nil]; exact List.mem_cons_of_mem _ hp)
      rw [List.append_nil] at this
      rcases this with q | q
      · exact .inl (by simpa using q)
      · right
        cases z : s.heap.get? p.1 with
        | none => rfl
        | some o => have := hg _ _ z; rw [this] at q; cases q
    | some v =>
      refine wpAny_pyNext_tuple_item hit htt (by simpa using hv) fun h5 hit5 sb => ?_
      obtain ⟨oi5, ho5, hc5, hd5⟩ := hit5
      have C5 : Cx w mg mb gg gg.objs.size _ m' ((d, od') :: (objsOf ns' ++ [(h4.objs.size, oi5)])) h5 := C.chg hit' sb ho5 (Upd.last (l := (d, od') :: objsOf ns') itne)
      obtain ⟨p, tv, hp, rfl⟩ := ia_get hps hv
      have hi : i < pv.length := (List.getElem?_eq_some_iff.mp hv).1
      have N5 := N'.cx C C5
      refine as_loc C5 fun h6 C6 => flat s fun _ => ?_
      have N6 := N5.cx C5 C6
      refine wpAny_execs_cons (wpAny_Assign_Name (MethodCall_ (n_loc C6 hm1 (me_fn C6.G (C6.keep (hg _ _ hx) xD) (C6.keep (hg _ _ hdx) dxD) (by with_unfolding_all rfl) (by with_unfolding_all rfl) (by with_unfolding_all rfl) ?_))))
      refine callWith_K C6.G.X (by with_unfolding_all rfl) (wpAny_items_cons (n_loc C6 rfl (wpAny_items_nil ⟨C6.G.X, ?_⟩)))
      refine gni_in C6 N6 (C6.keep (hg _ _ hx) xD) (C6.keep (hg _ _ hdx) dxD) hlow hne hne' (big C6) (by show A.depth + 1 + 4 < _; exact ar142 hroom) (by exact ar145 hpv hl hi) (fun q hq => by rcases List.mem_singleton.mp hq with rfl; exact (itne _ (.head _)).symm) ?_
      intro h7 ns7 n7 od7 tk7 C7 N7 hn7 hk7 hct7 hl7 _
      refine s_loc C7 fun h8 C8 => flat s fun _ => ?_
      have N8 := N7.cx C7 C8
      refine wpAny_execs_cons (wpAny_Expr_any (MethodCall_ (Attribute_any_ (n_loc C8 rfl (slotRead C8.G (N8.info n7 hn7) (N8.dd n7 hn7) rd_sc sl_sc rfl ?_)))) (by rfl) (by rfl))
      refine getMethod_list_append (N8.lst n7 hn7) rfl rfl ?_
      refine callWith_method1 (wpAny_items_cons (n_loc C8 hm2 (wpAny_items_nil ?_)))
      have hall : ∀ n ∈ ns7, n.sn.length ≤ 900 + i := fun n hn => by
        have := mem_ct hn
        rw [hct7] at this
        exact ensure_all (P := fun e => e.2.2.length ≤ 900 + i) (ct_all (P := fun e => e.2.2.length ≤ 900 + i) hs) (Nat.zero_le _) _ this
      refine app_sc C8 N8 hn7 (fun q hq e => ?_) (by have := (N8.iv n7 hn7).length; have := hall n7 hn7; omega) fun h9 ep9 C9 N9 => ?_
      · rcases List.mem_singleton.mp hq with rfl
        have e1 := C8.get (List.mem_cons_of_mem _ (List.mem_append_right _ (.head _)) : (h4.objs.size, oi5) ∈ _)
        have e2 := N8.lst n7 hn7
        rw [← show h4.objs.size = n7.la from e, e1] at e2
        cases e2
        simp at hc5
      refine wpAny_execs_nil ?_
      refine (hJ (j - 1) _ (by exact ar109 hj hi) ⟨i + 1, _, _, _, _, od7, oi5, rfl, by exact ar110 hj hi, C9, hc5, hd5, N9, hm1, hm2, ?_, ?_, ?_⟩).1
      · rw [ct_setN (F := fun e => (e.1, e.2.1, e.2.2 ++ [k])) (fun _ => rfl), hct7, hct, take_snoc hp, List.foldl_append, hk7]
        rfl
      · rw [len_setN]; exact ar146 hl hl7
      · intro n hn
        obtain ⟨n', hn', ⟨_, rfl⟩ | ⟨_, rfl⟩⟩ := mem_setN hn
        · show (n'.sn ++ [k]).length ≤ _
          rw [List.length_append]; have := hall n' hn'; simp; exact ar147 this
        · have := hall n hn'; exact ar148 this
  · have C6 : Cx w mg mb gg gg.objs.size _ _ ((d, od2) :: (objsOf (setN ns2 n2.k fun n => { n with np := n2.np + (pv.toArray.size : Int), tp := _ }) ++ [(h4.objs.size, { cls := .type "tuple_iterator", data := .fields #[.ref s.heap.objs.size, .int 0 0] })])) _ := C5.sub fun p hp => by
      rcases List.mem_cons.mp hp with rfl | hp
      · exact .tail _ (.head _)
      · rcases List.mem_append.mp hp with hp | hp
        · exact .tail _ (.tail _ (List.mem_append_left _ hp))
        · rcases List.mem_singleton.mp hp with rfl; exact .head _
    refine ⟨0, _, _, _, _, od2, _, rfl, rfl, C6, rfl, rfl, N4.cx C4 C6, rfl, rfl, ?_, ?_, ?_⟩
    · show ct _ = c0
      rw [show c0 = bump (ct ns2) k ps.length from by rw [hct2]]
      unfold ct bump setN
      rw [List.map_map, List.map_map]
      refine List.map_congr_left fun n hn => ?_
      show ((if n.k = n2.k then _ else n).k, (if n.k = n2.k then _ else n).np, (if n.k = n2.k then _ else n).sn) = if n.k = k then (n.k, n.np + (ps.length : Int), n.sn) else (n.k, n.np, n.sn)
      by_cases q : n.k = n2.k
      · rw [if_pos q, if_pos (q.trans hk2), N2.key hn hn2 q, List.size_toArray, hps.length]
      · rw [if_neg q, if_neg (fun e => q (e.trans hk2.symm))]
    · rw [len_setN]; exact ar149 hlen hl2
    · intro n hn
      have hall : ∀ n ∈ ns2, n.sn.length ≤ 900 + 0 := fun n hn => by
        have := mem_ct hn
        rw [hct2] at this
        exact ensure_all (P := fun e => e.2.2.length ≤ 900) (ct_all (P := fun e => e.2.2.length ≤ 900) hsl) (Nat.zero_le _) _ this
      obtain ⟨n', hn', ⟨_, rfl⟩ | ⟨_, rfl⟩⟩ := mem_setN hn
      · exact hall n' hn'
      · exact hall n hn'
end
end Mine

namespace Mine
section
variable {w : World} {mg mb : Str → Option Value} {s : Shared} {A : Around} {E : Value → Shared → Prop}
  {t1 t2 t3 t4 : Tok} {vN vR vP vF : Value} {x dx d rl : Addr} {n nr : Nat} {ns : List Nd} {od : Obj} {k : Int} {t : Tok} {env : Env}
/-- an item of a dict of ints by an int -/
theorem sub_dict {value slice : Expr} {pos : Pos} {Q : Value → Shared → Prop} {kvs : List (Int × Value)} {v : Value}
    (h : wpAny (model pg w) A (eval value env) (fun o s₁ => wpAny (model pg w) A (eval slice env) (fun i s₂ => ∃ k t, o = .ref d ∧ i = .int k t ∧ s₂.heap.DictOf (ik w) d kvs ∧ valueAt kvs k = some v ∧ Q v { s₂ with toks := s₂.toks + 1 }) E s₁) E s)
    (hs : ∀ o i, subscripted slice false o i = operate [o, i] (getItem o i) := by intro _ _; rfl) :
    wpAny (model pg w) A (eval (.Subscript value slice pos) env) Q E s := by
  refine Subscript_ (wpAny_mono h (fun o s₁ h₁ => wpAny_mono h₁ (fun i s₂ h₂ => ?_) fun _ _ q => q) fun _ _ q => q)
  obtain ⟨k, t, rfl, rfl, hD, hv, hq⟩ := h₂
  exact tail_any hD.typeIs slot_dict_getitem.lookup (wpAny_getItem_of (is_int k t) hD.mapOf hv hq) (hs _ _)

/-- the prepared sorter in the heap: ready list rv, P passed out, F finished -/
structure Srt (w : World) (h : Heap) (x dx d rl : Addr) (ns : List Nd) (rv : List Value) (P F : Int) : Prop where
  hx : h.get? x = some (instObj 137 dx)
  hdx : ∃ t1 t2 t3 t4 tP tF n, h.get? dx = some (dictOf (sEnt w t1 t2 t3 t4 (.ref d) (.ref rl) (.int P tP) (.int F tF)) n)
  hrl : ∃ n, h.get? rl = some (listOf rv.toArray n)
  N : Nds w h d ns
  lowd : 181 ≤ d
  lowdx : 181 ≤ dx
  lowrl : 181 ≤ rl
  ne : d ≠ dx
  nod : dx ∉ (objsOf ns).map (·.1)
  nol : rl ∉ (objsOf ns).map (·.1)

/-- the addresses of the sorter's own -/
abbrev fp (d : Addr) (ns : List Nd) (more : List Addr) : List Addr := d :: ((objsOf ns).map (·.1) ++ more)
theorem fp_map {d : Addr} {ns : List Nd} {od : Obj} {more : List (Addr × Obj)} : ((d, od) :: (objsOf ns ++ more)).map (·.1) = fp d ns (more.map (·.1)) := by rw [List.map_cons, List.map_append]
theorem addr_setN {ns : List Nd} {k : Int} {f : Nd → Nd} (S : Same f) : (objsOf (setN ns k f)).map (·.1) = (objsOf ns).map (·.1) := by
  unfold objsOf setN
  rw [List.flatMap_map, List.map_flatMap, List.map_flatMap]
  congr 1
  funext n
  by_cases q : n.k = k
  · simp only [if_pos q, List.map_cons, List.map_nil, S.ia, S.la, S.da]
  · simp only [if_neg q]
/-- who is not among them -/
theorem Nds.out {h : Heap} (N : Nds w h d ns) {b : Addr} {o : Obj} (e : h.get? b = some o) (h1 : o.cls ≠ .type "dict" ∨ (b ≠ d ∧ ∀ n ∈ ns, b ≠ n.da)) (h2 : o.cls ≠ .ref 40) (h3 : o.cls ≠ .type "list" ∨ ∀ n ∈ ns, b ≠ n.la) {more : List Addr} (h4 : b ∉ more) : b ∉ fp d ns more := fun q => by
  rcases List.mem_cons.mp q with rfl | q
  · obtain ⟨od, _, _, hod, rod, _⟩ := N.dict
    rw [hod] at e; cases e
    exact h1.elim (fun z => z rod.1) fun z => z.1 rfl
  · rcases List.mem_append.mp q with q | q
    · obtain ⟨p, hp, rfl⟩ := List.mem_map.mp q
      obtain ⟨n, hn, rfl | rfl | rfl⟩ := mem_objs hp
      · rw [N.info n hn] at e; cases e; exact h2 rfl
      · rw [N.lst n hn] at e; cases e; exact h3.elim (fun z => z rfl) fun z => z n hn rfl
      · rw [N.dd n hn] at e; cases e; exact h1.elim (fun z => z rfl) fun z => z.2 n hn rfl
    · exact h4 q

theorem Cx.apart {g : Heap} {L : Addr} {D : List Addr} {m : Str → Option Value} {own : List (Addr × Obj)} {h : Heap} (C : Cx w mg mb g L D m own h) {a : Addr} {o : Obj} {p : Addr × Obj} (h1 : (a, o) ∈ own) (h2 : p ∈ own) (hc : p.2.cls ≠ o.cls) : p.1 ≠ a := fun e => by
  have e1 := C.get h1
  have e2 := (C.nw p h2).1
  rw [e, e1] at e2
  exact hc (by rw [Option.some.inj e2])
theorem cls_objs {p : Addr × Obj} (hp : p ∈ objsOf ns) : p.2.cls = .ref 40 ∨ p.2.cls = .type "list" ∨ p.2.cls = .type "dict" := by
  obtain ⟨n, hn, rfl | rfl | rfl⟩ := mem_objs hp
  · exact .inl rfl
  · exact .inr (.inl rfl)
  · exact .inr (.inr rfl)
theorem Nds.odcls {h : Heap} (N : Nds w h d ns) (e : h.get? d = some od) : od.cls = .type "dict" := by
  obtain ⟨o, es, ep, ho, r, _⟩ := N.dict
  rw [ho] at e; cases e; exact r.1
/-- none of the sorter's is of another class -/
theorem Nds.cls {h : Heap} (N : Nds w h d ns) (e : h.get? d = some od) {c : Value} (h1 : Value.type "dict" ≠ c) (h2 : Value.ref 40 ≠ c) (h3 : Value.type "list" ≠ c) : ∀ p ∈ (d, od) :: objsOf ns, p.2.cls ≠ c := fun p hp => by
  rcases List.mem_cons.mp hp with rfl | hp
  · rw [show (d, od).2.cls = _ from N.odcls e]; exact h1
  · rcases cls_objs hp with q | q | q <;> rw [q] <;> assumption

theorem objs_own {n0 : Nd} {l : List (Addr × Obj)} (h0 : n0 ∈ ns) : (n0.ia, n0.info) ∈ (d, od) :: (objsOf ns ++ l) := .tail _ (List.mem_append_left _ (objs_info h0))
theorem key_setN {ns : List Nd} {k : Int} {f : Nd → Nd} (S : Same f) : (setN ns k f).map (·.k) = ns.map (·.k) := by
  unfold setN
  rw [List.map_map]
  refine List.map_congr_left fun n _ => ?_
  show (if n.k = k then f n else n).k = n.k
  by_cases q : n.k = k
  · rw [if_pos q, S.k]
  · rw [if_neg q]
theorem Upd.mid {pre post : List (Addr × Obj)} {a : Addr} {o o' : Obj} (h1 : ∀ p ∈ pre, p.1 ≠ a) (h2 : ∀ p ∈ post, p.1 ≠ a) : Upd (pre ++ (a, o) :: post) a o' (pre ++ (a, o') :: post) := fun p hp => by
  rcases List.mem_append.mp hp with q | q
  · exact .inr ⟨h1 p q, List.mem_append_left _ q⟩
  · rcases List.mem_cons.mp q with rfl | q
    · exact .inl rfl
    · exact .inr ⟨h2 p q, List.mem_append_right _ (.tail _ q)⟩
theorem same_np (v : Int) (tv : Tok) : Same fun n : Nd => { n with np := v, tp := tv } := ⟨fun _ => rfl, fun _ => rfl, fun _ => rfl, fun _ => rfl⟩
def outF (c : Ct) (rn : List Int) : Ct := c.map fun e => if e.1 ∈ rn then (e.1, -1, e.2.2) else e

structure OutI (w : World) (mg mb : Str → Option Value) (s : Shared) (D : List Addr) (d x dx rl tup it : Addr) (od odx orl : Obj) (rv : List Value) (rn : List Int) (ns : List Nd) (j : Nat) (s' : Shared) (i : Nat) (h' : Heap) (tk : Nat) (m' : Str → Option Value) (ns' : List Nd) (oi : Obj) : Prop where
  hs : s' = { s with heap := h', toks := tk }
  hj : j + i = rv.length
  C : Cx w mg mb s.heap s.heap.objs.size D m' ((d, od) :: (objsOf ns' ++ [(dx, odx), (rl, orl), (tup, tupOf rv), (it, oi)])) h'
  hc : oi.cls = .type "tuple_iterator"
  hd : oi.data = .fields #[.ref tup, .int (i : Nat) 0]
  N : Nds w h' d ns'
  hm1 : m' "self" = some (.ref x)
  hm2 : m' "n2i" = some (.ref d)
  hm3 : m' "result" = some (.ref tup)
  hct : ct ns' = outF (ct ns) (rn.take i)
  had : (objsOf ns').map (·.1) = (objsOf ns).map (·.1)
  hks : ns'.map (·.k) = ns.map (·.k)
theorem get_ready_spec {R : Result → Shared → Prop} {rv : List Value} {rn : List Int} {P F : Int} (G : Gd w mg mb s.heap) (hh : A.handled = none) (hroom : A.depth + 5 < recursionLimit)
    (S : Srt w s.heap x dx d rl ns rv P F) (hi : IntsAre rv rn) (hrn : ∀ k ∈ rn, k ∈ ns.map (·.k)) (hlen : rn.length ≤ 1000)
    (h : ∀ h' ns' tup tk, Srt w h' x dx d rl ns' [] (P + rn.length) F → ct ns' = outF (ct ns) rn → (objsOf ns').map (·.1) = (objsOf ns).map (·.1) → h'.get? tup = some (tupOf rv) → s.heap.get? tup = none →
      (∀ b o, s.heap.get? b = some o → b ∉ fp d ns [dx, rl] → h'.get? b = some o) → R (.ok (.ret (.ref tup))) { s with heap := h', toks := tk }) :
    codeAny (model pg w) A (.call (.ref 99) ⟨[.ref x], []⟩) R s := by
  refine enter (binds := [("self", .ref x)]) G (by exact ar52 hroom) rfl (by with_unfolding_all rfl) (BindsTo.of_eq rfl) rfl rfl rfl rfl rfl ?_
  intro h₁ hns hk J₀ E₀ hJ₀ hN₀
  obtain ⟨hx, ⟨t1, t2, t3, t4, tP, tF, n1, hdx⟩, ⟨n2, hrl⟩, N, ld, ldx, lrl, ne, nda, nla⟩ := S
  have N0 := N
  obtain ⟨od, es0, ep0, hod, rod⟩ := N.dict
  have C := Cx.start G hns hk ((d, od) :: (objsOf ns ++ [(dx, dictOf (sEnt w t1 t2 t3 t4 (.ref d) (.ref rl) (.int P tP) (.int F tF)) n1), (rl, listOf rv.toArray n2)])) (fun p hp => by
    rcases List.mem_cons.mp hp with rfl | hp
    · exact ⟨hod, ld⟩
    · rcases List.mem_append.mp hp with hp | hp
      · obtain ⟨n, hn, rfl | rfl | rfl⟩ := mem_objs hp
        · exact ⟨N.info n hn, N.li n hn⟩
        · exact ⟨N.lst n hn, N.ll n hn⟩
        · exact ⟨N.dd n hn, N.lda n hn⟩
      · simp only [List.mem_cons, List.not_mem_nil, or_false] at hp
        rcases hp with rfl | rfl
        · exact ⟨hdx, ldx⟩
        · exact ⟨hrl, lrl⟩)
  rw [fp_map] at C
  have xD : x ∉ fp d ns [dx, rl] := N.out hx (.inl (by simp)) (by simp) (.inl (by simp)) (by
    simp only [List.mem_cons, List.not_mem_nil, or_false, not_or]
    exact ⟨(fun e => by rw [e, hdx] at hx; cases hx), (fun e => by rw [e, hrl] at hx; cases hx)⟩)
  have rlm : (rl, listOf rv.toArray n2) ∈ (d, od) :: (objsOf ns ++ [(dx, dictOf (sEnt w t1 t2 t3 t4 (.ref d) (.ref rl) (.int P tP) (.int F tF)) n1), (rl, listOf rv.toArray n2)]) := .tail _ (List.mem_append_right _ (.tail _ (.head _)))
  have dxm : ∀ {o1 o2 : Obj} {od} {ns}, (dx, o1) ∈ (d, od) :: (objsOf ns ++ [(dx, o1), (rl, o2)]) := .tail _ (List.mem_append_right _ (.head _))
  refine wpAny_execs_cons (wpAny_If (wpAny_isTrue_Compare1 (Attribute_any_ (n_loc C rfl (a_dict C.G (C.keep hx xD) (C.get dxm) fR ?_)))))
  refine wpAny_Constant_none (is_none (wpAny_truthy_bool (wpAny_execs_nil ?_)))
  refine wpAny_execs_cons (wpAny_Assign_Name (Call_ (n_built (v := .type "tuple") C (by with_unfolding_all rfl) (by decide +kernel) (by decide) ?_)))
  refine PyProof.Rows.callWith_type1 (wpAny_items_cons (Attribute_any_ (n_loc C rfl (a_dict C.G (C.keep hx xD) (C.get dxm) fR (wpAny_items_nil ?_)))))
  have hrvl : rv.length ≤ 1000 := by have := hi.length; exact ar176 hlen this
  refine call_tuple_list (isList_of (C.get rlm)) (fun h2 k2 => ?_) (by rw [sizeLine_eq, List.size_toArray]; exact ar1 hrvl)
  have C2 := (C.call0 k2).push (tupOf rv)
  let odx := dictOf (sEnt w t1 t2 t3 t4 (.ref d) (.ref rl) (.int P tP) (.int F tF)) n1
  let orl := listOf rv.toArray n2
  let tup := h2.objs.size
  have C2 : Cx w mg mb s.heap s.heap.objs.size (fp d ns [dx, rl]) _ ((d, od) :: (objsOf ns ++ [(dx, odx), (rl, orl), (tup, tupOf rv)])) _ := C2.sub fun p hp => by
    rcases List.mem_cons.mp hp with rfl | hp
    · exact .tail _ (.head _)
    · rcases List.mem_append.mp hp with hp | hp
      · exact .tail _ (.tail _ (List.mem_append_left _ hp))
      · simp only [List.mem_cons, List.not_mem_nil, or_false] at hp
        rcases hp with rfl | rfl | rfl
        · exact .tail _ (.tail _ (List.mem_append_right _ (.head _)))
        · exact .tail _ (.tail _ (List.mem_append_right _ (.tail _ (.head _))))
        · exact .head _
  refine s_loc C2 fun h3 C3 => flat s fun _ => ?_
  have N3 : Nds w h3 d ns := (N.keeps hk).cx C C3
  have dxm3 : ∀ {o1 : Obj} {od} {ns} {l}, (dx, o1) ∈ (d, od) :: (objsOf ns ++ ((dx, o1) :: l)) := .tail _ (List.mem_append_right _ (.head _))
  refine wpAny_execs_cons (wpAny_Assign_Name (Attribute_any_ (n_loc C3 rfl (a_dict C3.G (C3.keep hx xD) (C3.get dxm3) fN ?_))))
  refine s_loc C3 fun h4 C4 => flat s fun _ => ?_
  have N4 := N3.cx C3 C4
  have tupm : ∀ {o1 o2 o3 : Obj} {od} {ns} {l}, (tup, o3) ∈ (d, od) :: (objsOf ns ++ ((dx, o1) :: (rl, o2) :: (tup, o3) :: l)) := .tail _ (List.mem_append_right _ (.tail _ (.tail _ (.head _))))
  refine wpAny_execs_cons (wpAny_For (n_loc C4 rfl (wpAny_pyIter_tuple ⟨_, C4.get tupm, rfl, _, rfl⟩ ?_)))
  have C5 := C4.push { cls := .type "tuple_iterator", data := .fields #[.ref tup, .int 0 0] }
  let it := h4.objs.size
  refine forL (fun j s' => ∃ i h' tk m' ns' oi, OutI w mg mb s (fp d ns [dx, rl]) d x dx rl tup it od odx orl rv rn ns j s' i h' tk m' ns' oi) ?_ rv.length ?_
  · rintro j s' J F₁ E₁ ⟨i, h', tk, m', ns', oi, rfl, hj, C, hc, hd, N', hm1, hm2, hm3, hct, had, hks⟩ hJ hF hV
    have itm : (it, oi) ∈ (d, od) :: (objsOf ns' ++ [(dx, odx), (rl, orl), (tup, tupOf rv), (it, oi)]) := .tail _ (List.mem_append_right _ (.tail _ (.tail _ (.tail _ (.head _)))))
    have hit : h'.IsTupleIter it tup i := ⟨oi, C.get itm, hc, hd⟩
    have htt : h'.IsTuple tup rv.toArray := ⟨_, C.get tupm, rfl, _, rfl⟩
    have itne : ∀ p ∈ (d, od) :: (objsOf ns' ++ [(dx, odx), (rl, orl), (tup, tupOf rv)]), p.1 ≠ it := fun p hp => by
      have hpm : p ∈ (d, od) :: (objsOf ns' ++ [(dx, odx), (rl, orl), (tup, tupOf rv), (it, oi)]) := by
        rcases List.mem_cons.mp hp with rfl | hp
        · exact .head _
        · rcases List.mem_append.mp hp with hp | hp
          · exact .tail _ (List.mem_append_left _ hp)
          · refine .tail _ (List.mem_append_right _ ?_)
            simp only [List.mem_cons, List.not_mem_nil, or_false] at hp ⊢
            rcases hp with e | e | e
            · exact .inl e
            · exact .inr (.inl e)
            · exact .inr (.inr (.inl e))
      refine C.apart itm hpm ?_
      rw [hc]
      rcases List.mem_cons.mp hp with rfl | hp
      · exact N'.cls (C.get (.head _)) (by simp) (by simp) (by simp) _ (.head _)
      · rcases List.mem_append.mp hp with hp | hp
        · exact N'.cls (C.get (.head _)) (by simp) (by simp) (by simp) _ (.tail _ hp)
        · simp only [List.mem_cons, List.not_mem_nil, or_false] at hp
          rcases hp with rfl | rfl | rfl <;> simp [odx, orl]
    have l4 : (d, od) :: (objsOf ns' ++ [(dx, odx), (rl, orl), (tup, tupOf rv), (it, oi)]) = ((d, od) :: (objsOf ns' ++ [(dx, odx), (rl, orl), (tup, tupOf rv)])) ++ [(it, oi)] := by simp
    cases hv : rv[i]? with
    | none =>
      refine wpAny_pyNext_tuple_end hh hit htt (by simpa using hv) fun h5 ext => ?_
      have hi' : i = rn.length := by
        have := hi.length
        have := List.getElem?_eq_none_iff.mp hv
        omega
      have C6 : Cx w mg mb s.heap s.heap.objs.size (fp d ns [dx, rl]) m' ((d, od) :: (objsOf ns' ++ [(dx, odx), (rl, orl), (tup, tupOf rv)])) h5 := C.call (D' := [it]) (fun b o e q => ext b o (by simpa using q) e) (fun a ha => by rcases List.mem_singleton.mp ha with rfl; exact ⟨oi, itm⟩)
        fun p hp => .inl ⟨by rw [l4]; exact List.mem_append_left _ hp, by simpa using itne p hp⟩
      have N6 := N'.cx C C6
      refine (hF _ ?_).1
      have rlm : ∀ {o1 o2 : Obj} {od} {ns} {l}, (rl, o2) ∈ (d, od) :: (objsOf ns ++ ((dx, o1) :: (rl, o2) :: l)) := .tail _ (List.mem_append_right _ (.tail _ (.head _)))
      refine wpAny_execs_cons (wpAny_Expr_any (MethodCall_ (Attribute_any_ (n_loc C6 hm1 (a_dict C6.G (C6.keep hx xD) (C6.get dxm3) fR ?_)))) (by rfl) (by rfl))
      refine getMethod_list_of PySem.F.slot_list_clear PySem.F.type_list_clear (isList_of (C6.get rlm)) ⟨_, C6.get rlm, rfl⟩ ?_
      refine callWith_method0 ?_
      refine call_meets PySem.F.slot_list_clear ⟨_, C6.get rlm, rfl⟩ PySem.F.entry_list_clear (PySem.F.args_list_clear_1 _) (PySem.AutoSeq1.list_clear_list_0 rl rv.toArray n2 (by rw [sizeLine_eq, List.size_toArray]; exact ar1 hrvl)) ⟨C6.get rlm, ?_⟩
      have upd : ∃ n', Obj.mapSeq (fun _ => #[]) orl = listOf #[] n' := ⟨_, rfl⟩
      obtain ⟨n3, e3⟩ := upd
      have rlne : ∀ p ∈ objsOf ns', p.1 ≠ rl := fun p hp e => nla (e ▸ had ▸ List.mem_map_of_mem hp)
      have dxrl : dx ≠ rl := fun e => by rw [e, hrl] at hdx; simp at hdx
      have tuprl : tup ≠ rl := C6.apart (o := orl) (p := (tup, tupOf rv)) rlm (.tail _ (List.mem_append_right _ (.tail _ (.tail _ (.head _))))) (by simp [orl])
      have drl : d ≠ rl := C6.apart (o := orl) (p := (d, od)) rlm (.head _) (by rw [show (d, od).2.cls = _ from N6.odcls (C6.get (.head _))]; simp [orl])
      have C7 : Cx w mg mb s.heap s.heap.objs.size (fp d ns [dx, rl]) m' ((d, od) :: (objsOf ns' ++ [(dx, odx), (rl, listOf #[] n3), (tup, tupOf rv)])) _ := C6.upd (f := Obj.mapSeq fun _ => #[]) rlm rfl (by
        rw [show Obj.mapSeq (fun _ => #[]) (listOf rv.toArray n2) = listOf #[] n3 from e3]
        have u := Upd.mid (pre := (d, od) :: (objsOf ns' ++ [(dx, odx)])) (post := [(tup, tupOf rv)]) (a := rl) (o := orl) (o' := listOf #[] n3) (fun p hp => by
          rcases List.mem_cons.mp hp with rfl | hp
          · exact drl
          · rcases List.mem_append.mp hp with hp | hp
            · exact rlne p hp
            · rcases List.mem_singleton.mp hp with rfl; exact dxrl) (fun p hp => by rcases List.mem_singleton.mp hp with rfl; exact tuprl)
        simp only [List.cons_append, List.append_assoc, List.nil_append] at u
        exact u)
      have N7 := N6.cx C6 C7
      refine wpAny_execs_cons (wpAny_AugAssign_AttributeAny (n_loc C7 hm1 (a_dict C7.G (C7.keep hx xD) (C7.get dxm3) fP ?_)))
      refine Call_ (n_built (v := .builtin "len") C7 (by with_unfolding_all rfl) boot_len (by decide) ?_)
      refine PyProof.Rows.callWith_builtin1 (wpAny_items_cons (n_loc C7 hm3 (wpAny_items_nil ?_)))
      refine PyProof.Rows.len_tuple ⟨_, C7.get tupm, rfl, _, rfl⟩ (by rw [List.size_toArray]; exact ar177 hrvl) ?_
      refine PyProof.Rows.iadd_int ?_
      refine set_dict (od' := dictOf (sEnt w t1 t2 t3 t4 (.ref d) (.ref rl) (.int (P + (rv.toArray.size : Int)) _) (.int F tF)) n1) C7 (C7.keep hx xD) dxm3 (by with_unfolding_all rfl) (by with_unfolding_all rfl) (by with_unfolding_all rfl) rfl (by show 4 ≤ 1000; decide) fun h8 C8 => ?_
      have dxne : ∀ p ∈ (d, od) :: objsOf ns', p.1 ≠ dx := fun p hp e => by
        rcases List.mem_cons.mp hp with rfl | hp
        · exact ne e
        · exact nda (e ▸ had ▸ List.mem_map_of_mem hp)
      have tupdx : tup ≠ dx := C7.apart (o := odx) (p := (tup, tupOf rv)) dxm3 (.tail _ (List.mem_append_right _ (.tail _ (.tail _ (.head _))))) (by simp [odx])
      have C9 := C8 _ (Upd.mid (pre := (d, od) :: objsOf ns') (post := [(rl, listOf #[] n3), (tup, tupOf rv)]) dxne (fun p hp => by
        simp only [List.mem_cons, List.not_mem_nil, or_false] at hp
        rcases hp with rfl | rfl
        · exact dxrl.symm
        · exact tupdx))
      refine wpAny_execs_cons (wpAny_Return_some (n_loc C9 hm3 ?_))
      have C9 : Cx w mg mb s.heap s.heap.objs.size (fp d ns [dx, rl]) m' ((d, od) :: (objsOf ns' ++ _)) h8 := C9
      rw [hi', List.take_length] at hct
      have hsz : (rv.toArray.size : Int) = rn.length := by rw [List.size_toArray, hi.length]
      refine hJ₀ _ _ (h h8 ns' tup _ ⟨C9.keep hx xD, ⟨_, _, _, _, _, _, _, hsz ▸ C9.get dxm3⟩, ⟨n3, C9.get rlm⟩, N7.cx C7 C9, ld, ldx, lrl, ne, had ▸ nda, had ▸ nla⟩ hct had (C9.get tupm) ?_ (fun b o e q => C9.keep e q))
      cases q : s.heap.get? tup with
      | none => rfl
      | some o => exact absurd (Heap.lt_size (k2 _ _ (hk _ _ q))) (Nat.lt_irrefl _)
    | some v =>
      refine wpAny_pyNext_tuple_item hit htt (by simpa using hv) fun h5 hit5 sb => ?_
      obtain ⟨oi5, ho5, hc5, hd5⟩ := hit5
      have C5 : Cx w mg mb s.heap s.heap.objs.size (fp d ns [dx, rl]) m' ((d, od) :: (objsOf ns' ++ [(dx, odx), (rl, orl), (tup, tupOf rv), (it, oi5)])) h5 := by
        have u := Upd.last (o := oi) (o' := oi5) itne
        simp only [List.cons_append, List.append_assoc, List.nil_append] at u
        exact C.chg itm sb ho5 u
      obtain ⟨p, tv, hp, rfl⟩ := ia_get hi hv
      have N5 := N'.cx C C5
      refine as_loc C5 fun h6 C6 => flat s fun _ => ?_
      have N6 := N5.cx C5 C6
      obtain ⟨n0, hn0, hk0⟩ : ∃ n ∈ ns', n.k = p := by
        have := hrn p (List.mem_of_getElem? hp)
        rw [← hks] at this
        exact List.mem_map.mp this
      refine wpAny_execs_cons (plainObj_wpAny_Assign_Attribute (n_glob C6 (by with_unfolding_all rfl) ?_))
      refine sub_dict (n_loc C6 hm2 (n_loc C6 rfl ⟨p, tv, rfl, rfl, N6.dict, hk0 ▸ N6.valueAt hn0, ?_⟩))
      refine set_np C6 N6 hn0 (fun q hq => ?_) fun h7 C7 N7 => ?_
      · refine C6.apart (objs_own hn0) (.tail _ (List.mem_append_right _ hq)) ?_
        simp only [List.mem_cons, List.not_mem_nil, or_false] at hq
        rcases hq with rfl | rfl | rfl | rfl
        · simp [odx]
        · simp [orl]
        · simp
        · rw [hc5]; simp
      refine wpAny_execs_nil ?_
      refine (hJ (j - 1) _ (by have := (List.getElem?_eq_some_iff.mp hv).1; exact ar109 hj this) ⟨i + 1, h7, _, _, _, oi5, rfl, by have := (List.getElem?_eq_some_iff.mp hv).1; exact ar110 hj this, C7, hc5, hd5, N7, hm1, hm2, hm3, ?_, ?_, ?_⟩).1
      · rw [ct_setN (F := fun e => (e.1, -1, e.2.2)) (fun _ => rfl), hct, take_snoc hp, hk0]
        unfold outF
        rw [List.map_map]
        refine List.map_congr_left fun e _ => ?_
        show (if (if e.1 ∈ List.take i rn then (e.1, (-1 : Int), e.2.2) else e).1 = p then ((if e.1 ∈ List.take i rn then (e.1, (-1 : Int), e.2.2) else e).1, (-1 : Int), (if e.1 ∈ List.take i rn then (e.1, (-1 : Int), e.2.2) else e).2.2) else (if e.1 ∈ List.take i rn then (e.1, (-1 : Int), e.2.2) else e)) = if e.1 ∈ List.take i rn ++ [p] then (e.1, -1, e.2.2) else e
        by_cases q : e.1 ∈ List.take i rn
        · rw [if_pos q, if_pos (List.mem_append_left _ q)]; split <;> rfl
        · rw [if_neg q]
          by_cases r : e.1 = p
          · rw [if_pos r, if_pos (List.mem_append_right _ (r ▸ .head _))]
          · rw [if_neg r, if_neg (fun z => (List.mem_append.mp z).elim q fun z => r (List.mem_singleton.mp z))]
      · rw [addr_setN (same_np _ _), had]
      · rw [← hks]; exact key_setN (same_np _ _)
  · have C6 : Cx w mg mb s.heap s.heap.objs.size (fp d ns [dx, rl]) _ ((d, od) :: (objsOf ns ++ [(dx, odx), (rl, orl), (tup, tupOf rv), (it, { cls := .type "tuple_iterator", data := .fields #[.ref tup, .int 0 0] })])) _ := C5.sub fun p hp => by
      rcases List.mem_cons.mp hp with rfl | hp
      · exact .tail _ (.head _)
      · rcases List.mem_append.mp hp with hp | hp
        · exact .tail _ (.tail _ (List.mem_append_left _ hp))
        · simp only [List.mem_cons, List.not_mem_nil, or_false] at hp
          rcases hp with rfl | rfl | rfl | rfl
          · exact .tail _ (.tail _ (List.mem_append_right _ (.head _)))
          · exact .tail _ (.tail _ (List.mem_append_right _ (.tail _ (.head _))))
          · exact .tail _ (.tail _ (List.mem_append_right _ (.tail _ (.tail _ (.head _)))))
          · exact .head _
    refine ⟨0, _, _, _, ns, _, rfl, rfl, C6, rfl, rfl, N4.cx C4 C6, rfl, rfl, rfl, ?_, rfl, rfl⟩
    rw [List.take_zero]
    unfold outF
    simp
end
end Mine

namespace Mine
/-- done, upon what the nodes say -/
def npOf (c : Ct) (k : Int) : Int := ((c.find? fun e => decide (e.1 = k)).map (·.2.1)).getD 0
def scOf (c : Ct) (k : Int) : List Int := ((c.find? fun e => decide (e.1 = k)).map (·.2.2)).getD []
def setC (c : Ct) (k v : Int) : Ct := c.map fun e => if e.1 = k then (e.1, v, e.2.2) else e
def dec1 (cr : Ct × List Int) (p : Int) : Ct × List Int := (setC cr.1 p (npOf cr.1 p - 1), if npOf cr.1 p - 1 = 0 then cr.2 ++ [p] else cr.2)
def done1 (cr : Ct × List Int) (k : Int) : Ct × List Int := (scOf cr.1 k).foldl dec1 (setC cr.1 k (-2), cr.2)
def DoneOk : Ct × List Int → List Int → Prop
  | _, [] => True
  | cr, k :: ks => npOf cr.1 k = -1 ∧ k ∈ cr.1.map (·.1) ∧ (∀ p ∈ scOf cr.1 k, p ∈ cr.1.map (·.1)) ∧ DoneOk (done1 cr k) ks

theorem keys_setC (c : Ct) (k v : Int) : (setC c k v).map (·.1) = c.map (·.1) := by
  unfold setC
  rw [List.map_map]
  refine List.map_congr_left fun e _ => ?_
  show (if e.1 = k then (e.1, v, e.2.2) else e).1 = e.1
  by_cases q : e.1 = k
  · rw [if_pos q]
  · rw [if_neg q]
theorem keys_ct (ns : List Nd) : (ct ns).map (·.1) = ns.map (·.k) := by unfold ct; rw [List.map_map]; rfl
theorem keys_dec (l : List Int) : ∀ cr : Ct × List Int, ((l.foldl dec1 cr).1).map (·.1) = cr.1.map (·.1) := by
  induction l with
  | nil => intro cr; rfl
  | cons p l ih => intro cr; rw [List.foldl_cons, ih]; exact keys_setC _ _ _
theorem find_ct {ns : List Nd} {n0 : Nd} (hn : n0 ∈ ns) (hu : ∀ n ∈ ns, n.k = n0.k → n = n0) : (ct ns).find? (fun e => decide (e.1 = n0.k)) = some (n0.k, n0.np, n0.sn) := by
  cases q : (ct ns).find? (fun e => decide (e.1 = n0.k)) with
  | none =>
    have := List.find?_eq_none.mp q _ (mem_ct hn)
    simp at this
  | some e =>
    have h1 := List.find?_some q
    obtain ⟨n, hn', rfl⟩ := List.mem_map.mp (List.mem_of_find?_eq_some q)
    rw [hu n hn' (by simpa using h1)]
section
variable {w : World} {mg mb : Str → Option Value} {s : Shared} {A : Around} {E : Value → Shared → Prop}
  {t1 t2 t3 t4 : Tok} {vN vR vP vF : Value} {x dx d rl : Addr} {n nr : Nat} {ns : List Nd} {od : Obj} {k : Int} {t : Tok} {env : Env} {h : Heap}
theorem Nds.np (N : Nds w h d ns) {n0 : Nd} (hn : n0 ∈ ns) : npOf (ct ns) n0.k = n0.np := by unfold npOf; rw [find_ct hn fun n hn' e => N.key hn' hn e]; rfl
theorem Nds.sc (N : Nds w h d ns) {n0 : Nd} (hn : n0 ∈ ns) : scOf (ct ns) n0.k = n0.sn := by unfold scOf; rw [find_ct hn fun n hn' e => N.key hn' hn e]; rfl
theorem ct_np {k v : Int} {tv : Tok} : ct (setN ns k fun n => { n with np := v, tp := tv }) = setC (ct ns) k v := ct_setN (F := fun e => (e.1, v, e.2.2)) fun _ => rfl

theorem Cx.itne {g : Heap} {L : Addr} {D : List Addr} {m : Str → Option Value} {l l' : List (Addr × Obj)} {a : Addr} {o : Obj} {c : Value} (C : Cx w mg mb g L D m ((d, od) :: (objsOf ns ++ l)) h) (N : Nds w h d ns) (hm : (a, o) ∈ (d, od) :: (objsOf ns ++ l)) (hc : o.cls = c)
    (h1 : Value.type "dict" ≠ c) (h2 : Value.ref 40 ≠ c) (h3 : Value.type "list" ≠ c) (hl : ∀ p ∈ l', p ∈ l ∧ p.2.cls ≠ c) : ∀ p ∈ (d, od) :: (objsOf ns ++ l'), p.1 ≠ a := fun p hp => by
  subst hc
  rcases List.mem_cons.mp hp with rfl | hp
  · exact C.apart hm (.head _) (N.cls (C.get (.head _)) h1 h2 h3 _ (.head _))
  · rcases List.mem_append.mp hp with hp | hp
    · exact C.apart hm (.tail _ (List.mem_append_left _ hp)) (N.cls (C.get (.head _)) h1 h2 h3 _ (.tail _ hp))
    · exact C.apart hm (.tail _ (List.mem_append_right _ (hl p hp).1)) (hl p hp).2
/-- the last of the owned changed -/
theorem Cx.chgLast {g : Heap} {L : Addr} {D : List Addr} {m : Str → Option Value} {l : List (Addr × Obj)} {a : Addr} {o o' : Obj} {h' : Heap} (C : Cx w mg mb g L D m ((d, od) :: (objsOf ns ++ (l ++ [(a, o)]))) h) (hs : Heap.SameBut a h h') (ha : h'.get? a = some o')
    (hne : ∀ p ∈ (d, od) :: (objsOf ns ++ l), p.1 ≠ a) : Cx w mg mb g L D m ((d, od) :: (objsOf ns ++ (l ++ [(a, o')]))) h' := by
  have u := Upd.last (o := o) (o' := o') hne
  simp only [List.cons_append, List.append_assoc] at u
  exact C.chg (.tail _ (List.mem_append_right _ (List.mem_append_right _ (.head _)))) hs ha u
/-- the last of the owned let go -/
theorem Cx.dropLast {g : Heap} {L : Addr} {D : List Addr} {m : Str → Option Value} {l : List (Addr × Obj)} {a : Addr} {o : Obj} {h' : Heap} (C : Cx w mg mb g L D m ((d, od) :: (objsOf ns ++ (l ++ [(a, o)]))) h) (hs : Heap.ExtBut a h h')
    (hne : ∀ p ∈ (d, od) :: (objsOf ns ++ l), p.1 ≠ a) : Cx w mg mb g L D m ((d, od) :: (objsOf ns ++ l)) h' :=
  C.call (D' := [a]) (fun b o e q => hs b o (by simpa using q) e) (fun b hb => by rcases List.mem_singleton.mp hb with rfl; exact ⟨o, .tail _ (List.mem_append_right _ (List.mem_append_right _ (.head _)))⟩) fun p hp => .inl ⟨by
    rcases List.mem_cons.mp hp with rfl | hp
    · exact .head _
    · rcases List.mem_append.mp hp with hp | hp
      · exact .tail _ (List.mem_append_left _ hp)
      · exact .tail _ (List.mem_append_right _ (List.mem_append_left _ hp)), by simpa using hne p hp⟩

structure DoneI (w : World) (mg mb : Str → Option Value) (s : Shared) (gg : Heap) (D : List Addr) (d x dx rl it : Addr) (od : Obj) (t1 t2 t3 t4 tP : Tok) (P F : Int) (kvl : Nat) (ns : List Nd) (rn ks : List Int) (j : Nat) (s' : Shared)
    (i : Nat) (h' : Heap) (tk : Nat) (m' : Str → Option Value) (ns' : List Nd) (rv' : List Value) (rn' : List Int) (oi : Obj) (tF' : Tok) (n1' n2' : Nat) : Prop where
  hs : s' = { s with heap := h', toks := tk }
  hj : j + i = kvl
  C : Cx w mg mb gg gg.objs.size D m' ((d, od) :: (objsOf ns' ++ [(dx, dictOf (sEnt w t1 t2 t3 t4 (.ref d) (.ref rl) (.int P tP) (.int (F + (i : Nat)) tF')) n1'), (rl, listOf rv'.toArray n2'), (it, oi)])) h'
  hc : oi.cls = .type "tuple_iterator"
  hd : oi.data = .fields #[.ref s.heap.objs.size, .int (i : Nat) 0]
  N : Nds w h' d ns'
  hm1 : m' "self" = some (.ref x)
  hm2 : m' "n2i" = some (.ref d)
  hct : (ct ns', rn') = (ks.take i).foldl done1 (ct ns, rn)
  hrv : IntsAre rv' rn'
  had : (objsOf ns').map (·.1) = (objsOf ns).map (·.1)
  hok : DoneOk (ct ns', rn') (ks.drop i)
  hrl : rn'.length ≤ 100 + 100 * i
  hn : ∀ n ∈ ns', n.sn.length ≤ 100
structure DecI (w : World) (mg mb : Str → Option Value) (s : Shared) (gg : Heap) (D : List Addr) (d x dx rl it it2 : Addr) (od odx' oi5 : Obj) (n0 : Nd) (ns : List Nd) (c : Ct) (rn' : List Int) (j : Nat) (s' : Shared)
    (q : Nat) (hq : Heap) (tkq : Nat) (mq : Str → Option Value) (nsq : List Nd) (rvq : List Value) (rnq : List Int) (oiq : Obj) (nq : Nat) : Prop where
  hs : s' = { s with heap := hq, toks := tkq }
  hj : j + q = n0.sv.length
  C : Cx w mg mb gg gg.objs.size D mq ((d, od) :: (objsOf nsq ++ ([(dx, odx'), (rl, listOf rvq.toArray nq), (it, oi5)] ++ [(it2, oiq)]))) hq
  hc : oiq.cls = .type "list_iterator"
  hd : oiq.data = .fields #[.ref n0.la, .int (q : Nat) 0]
  N : Nds w hq d nsq
  hm1 : mq "self" = some (.ref x)
  hm2 : mq "n2i" = some (.ref d)
  hct : (ct nsq, rnq) = (n0.sn.take q).foldl dec1 (c, rn')
  hrv : IntsAre rvq rnq
  had : (objsOf nsq).map (·.1) = (objsOf ns).map (·.1)
  hl : rnq.length ≤ rn'.length + q
  hn : ∀ n ∈ nsq, n.sn.length ≤ 100
  hx : ∃ n ∈ nsq, n.la = n0.la ∧ n.sv = n0.sv
theorem done_spec {R : Result → Shared → Prop} {rv kv : List Value} {rn ks : List Int} {P F : Int} (G : Gd w mg mb s.heap) (hh : A.handled = none) (hroom : A.depth + 5 < recursionLimit)
    (S : Srt w s.heap x dx d rl ns rv P F) (hr : IntsAre rv rn) (hk : IntsAre kv ks) (hkl : ks.length ≤ 100) (hrl : rn.length ≤ 100) (hsc : ∀ n ∈ ns, n.sn.length ≤ 100) (hok : DoneOk (ct ns, rn) ks)
    (h : ∀ h' ns' rv' tk, Srt w h' x dx d rl ns' rv' P (F + ks.length) → IntsAre rv' (ks.foldl done1 (ct ns, rn)).2 → ct ns' = (ks.foldl done1 (ct ns, rn)).1 → (objsOf ns').map (·.1) = (objsOf ns).map (·.1) →
      (∀ b o, s.heap.get? b = some o → b ∉ fp d ns [dx, rl] → h'.get? b = some o) → R (.ok (.ret .none)) { s with heap := h', toks := tk }) :
    codeAny (model pg w) A (.call (.ref 120) ⟨.ref x :: kv, []⟩) R s := by
  have hkv : kv.length ≤ 100 := by have := hk.length; exact ar107 hkl this
  refine enterV (vs := kv) (binds := [("self", .ref x), ("nodes", .ref s.heap.objs.size)]) G (by exact ar52 hroom) rfl (by with_unfolding_all rfl) ?_ rfl rfl rfl rfl rfl ?_
  · intro M A' E' Q hq
    refine wpAny_of_eq' (bind_var (vs1 := [.ref x]) (vs := kv) (by rfl) (by rfl) (by rfl) (by rfl) (by with_unfolding_all rfl)) ?_
    exact wpAny_bind (wpAny_newTuple (wpAny_pure hq) (by rw [sizeLine_eq]; exact ar80 hkv))
  intro h₁ hns hk₁ J₀ E₀ hJ₀ hN₀
  obtain ⟨hx, ⟨t1, t2, t3, t4, tP, tF, n1, hdx⟩, ⟨n2, hrl'⟩, N, ld, ldx, lrl, ne, nda, nla⟩ := S
  have N0 := N
  obtain ⟨od, es0, ep0, hod, rod⟩ := N.dict
  have hg : ∀ b o, s.heap.get? b = some o → (s.heap.push (tupOf kv)).get? b = some o := fun b o e => Heap.get?_push_of_some _ e
  have htup : (s.heap.push (tupOf kv)).get? s.heap.objs.size = some (tupOf kv) := Heap.get?_push_size _ rfl
  have C := Cx.start (G.keeps fun b o _ e => hg b o e) hns hk₁ ((d, od) :: (objsOf ns ++ [(dx, dictOf (sEnt w t1 t2 t3 t4 (.ref d) (.ref rl) (.int P tP) (.int F tF)) n1), (rl, listOf rv.toArray n2)])) (fun p hp => by
    rcases List.mem_cons.mp hp with rfl | hp
    · exact ⟨hg _ _ hod, ld⟩
    · rcases List.mem_append.mp hp with hp | hp
      · obtain ⟨n, hn, rfl | rfl | rfl⟩ := mem_objs hp
        · exact ⟨hg _ _ (N.info n hn), N.li n hn⟩
        · exact ⟨hg _ _ (N.lst n hn), N.ll n hn⟩
        · exact ⟨hg _ _ (N.dd n hn), N.lda n hn⟩
      · simp only [List.mem_cons, List.not_mem_nil, or_false] at hp
        rcases hp with rfl | rfl
        · exact ⟨hg _ _ hdx, ldx⟩
        · exact ⟨hg _ _ hrl', lrl⟩)
  rw [fp_map] at C
  have xD : x ∉ fp d ns [dx, rl] := N.out hx (.inl (by simp)) (by simp) (.inl (by simp)) (by
    simp only [List.mem_cons, List.not_mem_nil, or_false, not_or]
    exact ⟨(fun e => by rw [e, hdx] at hx; cases hx), (fun e => by rw [e, hrl'] at hx; cases hx)⟩)
  have old : ∀ b ∈ fp d ns [dx, rl], ∃ o, s.heap.get? b = some o := fun b hb => by
    rcases List.mem_cons.mp hb with rfl | hb
    · exact ⟨_, hod⟩
    · rcases List.mem_append.mp hb with hb | hb
      · obtain ⟨p, hp, rfl⟩ := List.mem_map.mp hb
        obtain ⟨n, hn, rfl | rfl | rfl⟩ := mem_objs hp
        · exact ⟨_, N.info n hn⟩
        · exact ⟨_, N.lst n hn⟩
        · exact ⟨_, N.dd n hn⟩
      · simp only [List.mem_cons, List.not_mem_nil, or_false] at hb
        rcases hb with rfl | rfl
        · exact ⟨_, hdx⟩
        · exact ⟨_, hrl'⟩
  have tD : s.heap.objs.size ∉ fp d ns [dx, rl] := fun q => by obtain ⟨o, ho⟩ := old _ q; exact absurd (Heap.lt_size ho) (Nat.lt_irrefl _)
  have dxm3 : ∀ {o1 : Obj} {od} {ns} {l}, (dx, o1) ∈ (d, od) :: (objsOf ns ++ ((dx, o1) :: l)) := .tail _ (List.mem_append_right _ (.head _))
  refine wpAny_execs_cons (wpAny_If (wpAny_isTrue_Compare1 (Attribute_any_ (n_loc C rfl (a_dict C.G (C.keep (hg _ _ hx) xD) (C.get dxm3) fR ?_)))))
  refine wpAny_Constant_none (is_none (wpAny_truthy_bool (wpAny_execs_nil ?_)))
  refine wpAny_execs_cons (wpAny_Assign_Name (Attribute_any_ (n_loc C rfl (a_dict C.G (C.keep (hg _ _ hx) xD) (C.get dxm3) fN ?_))))
  refine s_loc C fun h2 C2 => flat s fun _ => ?_
  have N2 : Nds w h2 d ns := (N.keeps fun b o e => hk₁ b o (hg b o e)).cx C C2
  refine wpAny_execs_cons (wpAny_For (n_loc C2 rfl (wpAny_pyIter_tuple ⟨_, C2.keep htup tD, rfl, _, rfl⟩ ?_)))
  have C3 := C2.push { cls := .type "tuple_iterator", data := .fields #[.ref s.heap.objs.size, .int 0 0] }
  let gg := s.heap.push (tupOf kv)
  let it := h2.objs.size
  refine forL (fun j s' => ∃ i h' tk m' ns' rv' rn' oi tF' n1' n2', DoneI w mg mb s gg (fp d ns [dx, rl]) d x dx rl it od t1 t2 t3 t4 tP P F kv.length ns rn ks j s' i h' tk m' ns' rv' rn' oi tF' n1' n2') ?_ kv.length ?_
  · rintro j s' J F₁ E₁ ⟨i, h', tk, m', ns', rv', rn', oi, tF', n1', n2', rfl, hj, C, hc, hd, N', hm1, hm2, hct, hrv', had, hok', hrl2, hs'⟩ hJ hF hV
    have itm : ∀ {o1 o2 : Obj} {ns} {l}, (it, oi) ∈ (d, od) :: (objsOf ns ++ ((dx, o1) :: (rl, o2) :: (it, oi) :: l)) := .tail _ (List.mem_append_right _ (.tail _ (.tail _ (.head _))))
    have hit : h'.IsTupleIter it s.heap.objs.size i := ⟨oi, C.get itm, hc, hd⟩
    have htt : h'.IsTuple s.heap.objs.size kv.toArray := ⟨_, C.keep htup tD, rfl, _, rfl⟩
    have itne := C.itne N' itm hc (by simp) (by simp) (by simp) (l' := [(dx, dictOf (sEnt w t1 t2 t3 t4 (.ref d) (.ref rl) (.int P tP) (.int (F + (i : Nat)) tF')) n1'), (rl, listOf rv'.toArray n2')]) (fun p hp => by
      simp only [List.mem_cons, List.not_mem_nil, or_false] at hp
      rcases hp with rfl | rfl
      · exact ⟨.head _, by simp⟩
      · exact ⟨.tail _ (.head _), by simp⟩)
    cases hv : kv[i]? with
    | none =>
      refine wpAny_pyNext_tuple_end hh hit htt (by simpa using hv) fun h5 ext => ?_
      have C6 := Cx.dropLast (l := [(dx, dictOf (sEnt w t1 t2 t3 t4 (.ref d) (.ref rl) (.int P tP) (.int (F + (i : Nat)) tF')) n1'), (rl, listOf rv'.toArray n2')]) C ext itne
      have hi' : i = ks.length := by
        have := hk.length
        have := List.getElem?_eq_none_iff.mp hv
        omega
      rw [hi', List.take_length] at hct
      refine (hF _ (wpAny_execs_nil ?_)).1
      have N6 := N'.cx C C6
      exact hN₀ _ (h h5 ns' rv' _ ⟨C6.keep (hg _ _ hx) xD, ⟨_, _, _, _, _, _, _, hi' ▸ C6.get dxm3⟩, ⟨n2', C6.get (.tail _ (List.mem_append_right _ (.tail _ (.head _))))⟩, N6, ld, ldx, lrl, ne, had ▸ nda, had ▸ nla⟩ (hct ▸ hrv') (congrArg Prod.fst hct) had (fun b o e q => C6.keep (hg _ _ e) q))
    | some v =>
      refine wpAny_pyNext_tuple_item hit htt (by simpa using hv) fun h5 hit5 sb => ?_
      obtain ⟨oi5, ho5, hc5, hd5⟩ := hit5
      have C5 := Cx.chgLast (l := [(dx, dictOf (sEnt w t1 t2 t3 t4 (.ref d) (.ref rl) (.int P tP) (.int (F + (i : Nat)) tF')) n1'), (rl, listOf rv'.toArray n2')]) C sb ho5 itne
      have N5 := N'.cx C C5
      obtain ⟨k, tv, hp, rfl⟩ := ia_get hk hv
      refine as_loc C5 fun h6 C6 => flat s fun _ => ?_
      have N6 := N5.cx C5 C6
      have hi : i < kv.length := (List.getElem?_eq_some_iff.mp hv).1
      have hdrop : ks.drop i = k :: ks.drop (i + 1) := by
        obtain ⟨a, b⟩ := List.getElem?_eq_some_iff.mp hp
        rw [← b, List.drop_eq_getElem_cons a]
      rw [hdrop] at hok'
      obtain ⟨ok1, ok2, ok3, ok4⟩ := hok'
      obtain ⟨n0, hn0, hk0⟩ : ∃ n ∈ ns', n.k = k := by
        rw [keys_ct] at ok2
        exact List.mem_map.mp ok2
      have hnp0 : n0.np = -1 := by rw [← N'.np hn0, hk0]; exact ok1
      have hsc0 : scOf (ct ns') k = n0.sn := by rw [← N'.sc hn0, hk0]
      refine wpAny_execs_cons (wpAny_If (wpAny_isTrue_Compare1 (wpAny_NamedExpr (MethodCall_ (n_loc C6 hm2 ?_)))))
      refine getMethod_builtin N6.dict.typeIs PySem.F.plainAttrs_dict PySem.F.slot_dict_get PySem.F.type_dict_get N6.dict.mapOf.noDict ?_
      refine wpAny_dict_get1 (knd := ik w) (low_sys ld) (n_loc C6 rfl ⟨k, valueAt (kvOf ns'), is_int k tv, N6.dict.mapOf, ?_⟩)
      rw [show valueAt (kvOf ns') k = some (.ref n0.ia) from hk0 ▸ N6.valueAt hn0]
      refine as_loc C6 fun h7 C7 => flat s fun _ => ?_
      have N7 := N6.cx C6 C7
      refine wpAny_Constant_none (is_none (wpAny_truthy_bool (wpAny_execs_nil ?_)))
      refine wpAny_execs_cons (wpAny_Assign_Name (Attribute_any_ (n_loc C7 rfl (slotRead C7.G (N7.info n0 hn0) (N7.dd n0 hn0) rd_np sl_np rfl ?_))))
      refine s_loc C7 fun h8 C8 => flat s fun _ => ?_
      have N8 := N7.cx C7 C8
      refine wpAny_execs_cons (wpAny_If (wpAny_isTrue_Compare1 (n_loc C8 rfl (n_glob C8 (by with_unfolding_all rfl) ?_))))
      refine PyProof.Rows.ne_int (wpAny_truthy_bool ?_)
      rw [hnp0]
      refine wpAny_execs_nil ?_
      refine wpAny_execs_cons (plainObj_wpAny_Assign_Attribute (n_glob C8 (by with_unfolding_all rfl) (n_loc C8 rfl ?_)))
      refine set_np C8 N8 hn0 (fun q hq => ?_) fun h9 C9 N9 => ?_
      · refine C8.apart (objs_own hn0) (.tail _ (List.mem_append_right _ hq)) ?_
        simp only [List.mem_cons, List.not_mem_nil, or_false, List.cons_append, List.nil_append] at hq
        rcases hq with rfl | rfl | rfl
        · simp
        · simp
        · rw [hc5]; simp
      have dxrl : dx ≠ rl := fun e => by rw [e, hrl'] at hdx; simp at hdx
      have L9 := N9.lst _ (mem_setN_at hn0 rfl)
      have I9 := N9.info _ (mem_setN_at hn0 rfl)
      have D9 := N9.dd _ (mem_setN_at hn0 rfl)
      refine wpAny_execs_cons (wpAny_For (Attribute_any_ (n_loc C9 rfl (slotRead C9.G I9 D9 rd_sc sl_sc rfl (wpAny_pyIter_list (isList_of L9) ?_)))))
      have C10 := C9.push { cls := .type "list_iterator", data := .fields #[.ref n0.la, .int 0 0] }
      let it2 := h9.objs.size
      let odx' := dictOf (sEnt w t1 t2 t3 t4 (.ref d) (.ref rl) (.int P tP) (.int (F + (i : Nat)) tF')) n1'
      refine forL (fun j s' => ∃ q hq tkq mq nsq rvq rnq oiq nq, DecI w mg mb s gg (fp d ns [dx, rl]) d x dx rl it it2 od odx' oi5 n0 ns (setC (ct ns') k (-2)) rn' j s' q hq tkq mq nsq rvq rnq oiq nq) ?_ n0.sv.length ?_
      · rintro jq sq J₂ F₂ E₂ ⟨q, hq, tkq, mq, nsq, rvq, rnq, oiq, nq, rfl, hjq, Cq, hcq, hdq, Nq, hmq1, hmq2, hctq, hrvq, hadq, hlq, hsq, nL, hnL, hnL1, hnL2⟩ hJ₂ hF₂ hV₂
        have itmq : (it2, oiq) ∈ (d, od) :: (objsOf nsq ++ ([(dx, odx'), (rl, listOf rvq.toArray nq), (it, oi5)] ++ [(it2, oiq)])) := .tail _ (List.mem_append_right _ (.tail _ (.tail _ (.tail _ (.head _)))))
        have hitq : hq.IsListIter it2 n0.la q := ⟨oiq, Cq.get itmq, hcq, hdq⟩
        have hltq : hq.IsList n0.la n0.sv.toArray := by
          have := Nq.lst nL hnL
          rw [hnL1] at this
          exact ⟨_, this, rfl, _, by show Data.seq nL.sv.toArray _ = _; rw [hnL2]⟩
        have itneq := Cq.itne Nq itmq hcq (by simp) (by simp) (by simp) (l' := [(dx, odx'), (rl, listOf rvq.toArray nq), (it, oi5)]) (fun p hp => by
          simp only [List.mem_cons, List.not_mem_nil, or_false] at hp
          rcases hp with rfl | rfl | rfl
          · exact ⟨.head _, by simp [odx']⟩
          · exact ⟨.tail _ (.head _), by simp⟩
          · exact ⟨.tail _ (.tail _ (.head _)), by rw [hc5]; simp⟩)
        cases hvq : n0.sv[q]? with
        | none =>
          refine wpAny_pyNext_list_end hh hitq hltq (by simpa using hvq) fun h11 ext => ?_
          have C11 := Cx.dropLast Cq ext itneq
          have N11 := Nq.cx Cq C11
          refine (hF₂ _ ?_).1
          have hql : q = n0.sn.length := by
            have := (N'.iv n0 hn0).length
            have := List.getElem?_eq_none_iff.mp hvq
            omega
          rw [hql, List.take_length, ← hsc0] at hctq
          have hd1 : (ct nsq, rnq) = done1 (ct ns', rn') k := hctq
          refine wpAny_execs_cons (wpAny_AugAssign_AttributeAny (n_loc C11 hmq1 (a_dict C11.G (C11.keep (hg _ _ hx) xD) (C11.get dxm3) fF (wpAny_Constant_int (PyProof.Rows.iadd_int ?_)))))
          refine set_dict (od' := dictOf (sEnt w t1 t2 t3 t4 (.ref d) (.ref rl) (.int P tP) (.int (F + (i : Nat) + 1) _)) n1') C11 (C11.keep (hg _ _ hx) xD) dxm3 (by with_unfolding_all rfl) (by with_unfolding_all rfl) (by with_unfolding_all rfl) rfl (by show 4 ≤ 1000; decide) fun h12 C12 => ?_
          have dxne : ∀ p ∈ (d, od) :: objsOf nsq, p.1 ≠ dx := fun p hp e => by
            rcases List.mem_cons.mp hp with rfl | hp
            · exact ne e
            · exact nda (e ▸ hadq ▸ List.mem_map_of_mem hp)
          have itdx : it ≠ dx := C11.apart (o := odx') (p := (it, oi5)) dxm3 (.tail _ (List.mem_append_right _ (.tail _ (.tail _ (.head _))))) (by rw [hc5]; simp [odx'])
          have C13 := C12 _ (Upd.mid (pre := (d, od) :: objsOf nsq) (post := [(rl, listOf rvq.toArray nq), (it, oi5)]) dxne (fun p hp => by
            simp only [List.mem_cons, List.not_mem_nil, or_false] at hp
            rcases hp with rfl | rfl
            · exact dxrl.symm
            · exact itdx))
          refine wpAny_execs_nil ?_
          have C13 : Cx w mg mb gg gg.objs.size (fp d ns [dx, rl]) mq ((d, od) :: (objsOf nsq ++ _)) h12 := C13
          have hFi : F + (i : Nat) + 1 = F + ((i + 1 : Nat) : Int) := by exact ar108
          rw [hFi] at C13
          refine (hJ (j - 1) _ (by exact ar109 hj hi) ⟨i + 1, h12, _, mq, nsq, rvq, rnq, oi5, _, n1', nq, rfl, by exact ar110 hj hi, C13, hc5, hd5, N11.cx C11 C13, hmq1, hmq2, ?_, hrvq, hadq, ?_, ?_, hsq⟩).1
          · rw [take_snoc hp, List.foldl_append, ← hct]; exact hd1
          · rw [hd1]; exact ok4
          · have : n0.sn.length ≤ 100 := hs' n0 hn0
            exact ar111 hrl2 hlq hql this
        | some v =>
          refine wpAny_pyNext_list_item hitq hltq (by simpa using hvq) fun h11 hit11 sb => ?_
          obtain ⟨oi11, ho11, hc11, hd11⟩ := hit11
          have C11 := Cx.chgLast Cq sb ho11 itneq
          have N11 := Nq.cx Cq C11
          obtain ⟨p, tv2, hp2, rfl⟩ := ia_get (N'.iv n0 hn0) hvq
          refine as_loc C11 fun h12 C12 => flat s fun _ => ?_
          have N12 := N11.cx C11 C12
          have hql : q < n0.sv.length := (List.getElem?_eq_some_iff.mp hvq).1
          obtain ⟨nP, hnP, hkP⟩ : ∃ n ∈ nsq, n.k = p := by
            have h1 : p ∈ (ct ns').map (·.1) := ok3 p (hsc0 ▸ List.mem_of_getElem? hp2)
            have h2 : (ct nsq).map (·.1) = (ct ns').map (·.1) := by
              rw [show ct nsq = ((n0.sn.take q).foldl dec1 (setC (ct ns') k (-2), rn')).1 from congrArg Prod.fst hctq, keys_dec, keys_setC]
            rw [← h2, keys_ct] at h1
            exact List.mem_map.mp h1
          have hnpP : npOf (ct nsq) p = nP.np := by rw [← Nq.np hnP, hkP]
          refine wpAny_execs_cons (wpAny_Assign_Name (sub_dict (n_loc C12 hmq2 (n_loc C12 rfl ⟨p, tv2, rfl, rfl, N12.dict, hkP ▸ N12.valueAt hnP, ?_⟩))))
          refine s_loc C12 fun h13 C13 => flat s fun _ => ?_
          have N13 := N12.cx C12 C13
          refine wpAny_execs_cons (wpAny_AugAssign_AttributeAny (n_loc C13 rfl (slotRead C13.G (N13.info nP hnP) (N13.dd nP hnP) rd_np sl_np rfl (wpAny_Constant_int (PySem.P.isub_int ?_)))))
          refine set_np C13 N13 hnP (fun z hz => ?_) fun h14 C14 N14 => ?_
          · refine C13.apart (objs_own hnP) (.tail _ (List.mem_append_right _ hz)) ?_
            simp only [List.mem_cons, List.not_mem_nil, or_false, List.cons_append, List.nil_append] at hz
            rcases hz with rfl | rfl | rfl | rfl
            · simp [odx']
            · simp
            · rw [hc5]; simp
            · rw [hc11]; simp
          have I14 := N14.info _ (mem_setN_at hnP rfl)
          have D14 := N14.dd _ (mem_setN_at hnP rfl)
          have F14 : ∀ tv : Tok, (objsOf (setN nsq nP.k fun n => { n with np := nP.np - 1, tp := tv })).map (·.1) = (objsOf ns).map (·.1) ∧ (∀ n ∈ setN nsq nP.k (fun n => { n with np := nP.np - 1, tp := tv }), n.sn.length ≤ 100) ∧
              ct (setN nsq nP.k fun n => { n with np := nP.np - 1, tp := tv }) = setC (ct nsq) p (npOf (ct nsq) p - 1) ∧ ∃ n ∈ setN nsq nP.k (fun n => { n with np := nP.np - 1, tp := tv }), n.la = n0.la ∧ n.sv = n0.sv := fun tv => by
            refine ⟨(addr_setN (same_np _ _)).trans hadq, fun n hn => ?_, by rw [ct_np, hkP, hnpP], ?_⟩
            · obtain ⟨n', hn', ⟨_, rfl⟩ | ⟨_, rfl⟩⟩ := mem_setN hn
              · exact hsq n' hn'
              · exact hsq n hn'
            · by_cases z : nL.k = nP.k
              · exact ⟨_, mem_setN_at hnL z, hnL1, hnL2⟩
              · exact ⟨_, mem_setN_off hnL z, hnL1, hnL2⟩
          obtain ⟨f1, f2, f3, f4⟩ := F14 _
          refine wpAny_execs_cons (wpAny_If (wpAny_isTrue_Compare1 (Attribute_any_ (n_loc C14 rfl (slotRead C14.G I14 D14 rd_np sl_np rfl (wpAny_Constant_int (PyProof.Rows.eq_int (wpAny_truthy_bool ?_))))))))
          have hdec : dec1 (ct nsq, rnq) p = (setC (ct nsq) p (npOf (ct nsq) p - 1), if nP.np - 1 = 0 then rnq ++ [p] else rnq) := by unfold dec1; rw [hnpP]
          split
          · rename_i hz
            have hz : nP.np - 1 = 0 := by simpa using hz
            have rlm : ∀ {o1 o2 : Obj} {od} {ns} {l}, (rl, o2) ∈ (d, od) :: (objsOf ns ++ ((dx, o1) :: (rl, o2) :: l)) := .tail _ (List.mem_append_right _ (.tail _ (.head _)))
            refine wpAny_execs_cons (wpAny_Expr_any (MethodCall_ (Attribute_any_ (n_loc C14 hmq1 (a_dict C14.G (C14.keep (hg _ _ hx) xD) (C14.get dxm3) fR ?_)))) (by rfl) (by rfl))
            refine getMethod_list_append (C14.get rlm) rfl rfl ?_
            refine callWith_method1 (wpAny_items_cons (n_loc C14 rfl (wpAny_items_nil ?_)))
            have hrl3 := hrvq.length
            refine wpAny_list_append_plain ⟨_, C14.get rlm⟩ (fun h15 hl15 sb15 => ?_) (by rw [sizeLine_eq, List.size_toArray]; have := hs' n0 hn0; have := (N'.iv n0 hn0).length; omega)
            obtain ⟨n15, hl15⟩ := hl15
            rw [show (rvq.toArray.push (Value.int p tv2)) = (rvq ++ [Value.int p tv2]).toArray from by simp] at hl15
            have rlpre : ∀ z ∈ (d, od) :: (objsOf (setN nsq nP.k _) ++ [(dx, odx')]), z.1 ≠ rl := fun z hz e => by
              rcases List.mem_cons.mp hz with rfl | hz
              · have : d ≠ rl := C14.apart (p := (d, od)) rlm (.head _) (by rw [show (d, od).2.cls = _ from N14.odcls (C14.get (.head _))]; simp)
                exact this e
              · rcases List.mem_append.mp hz with hz | hz
                · exact nla (e ▸ f1 ▸ List.mem_map_of_mem hz)
                · rcases List.mem_singleton.mp hz with rfl; exact dxrl e
            have rlpost : ∀ z ∈ [(it, oi5), (it2, oi11)], z.1 ≠ rl := fun z hz => by
              refine C14.apart rlm (.tail _ (List.mem_append_right _ (.tail _ (.tail _ hz)))) ?_
              simp only [List.mem_cons, List.not_mem_nil, or_false] at hz
              rcases hz with rfl | rfl
              · rw [hc5]; simp
              · rw [hc11]; simp
            have u := Upd.mid (o := listOf rvq.toArray nq) (o' := listOf (rvq ++ [Value.int p tv2]).toArray n15) rlpre rlpost
            simp only [List.cons_append, List.append_assoc, List.nil_append] at u
            have C15 := C14.chg rlm sb15 hl15 u
            refine wpAny_execs_nil (wpAny_execs_nil ?_)
            refine (hJ₂ (jq - 1) _ (by exact ar109 hjq hql) ⟨q + 1, h15, _, _, _, rvq ++ [Value.int p tv2], rnq ++ [p], oi11, n15, rfl, by exact ar110 hjq hql, C15, hc11, hd11, N14.cx C14 C15, hmq1, hmq2, ?_, hrvq.append (.cons p tv2 .nil), f1, by rw [List.length_append, List.length_singleton]; exact ar112 hlq, f2, f4⟩).1
            rw [take_snoc hp2, List.foldl_append, ← hctq, f3]
            exact (hdec.trans (by rw [if_pos hz])).symm
          · rename_i hz
            have hz : ¬ nP.np - 1 = 0 := by simpa using hz
            refine wpAny_execs_nil (wpAny_execs_nil ?_)
            refine (hJ₂ (jq - 1) _ (by exact ar109 hjq hql) ⟨q + 1, h14, _, _, _, rvq, rnq, oi11, nq, rfl, by exact ar110 hjq hql, C14, hc11, hd11, N14, hmq1, hmq2, ?_, hrvq, f1, by exact ar113 hlq, f2, f4⟩).1
            rw [take_snoc hp2, List.foldl_append, ← hctq, f3]
            exact (hdec.trans (by rw [if_neg hz])).symm
      · have C11 : Cx w mg mb gg gg.objs.size (fp d ns [dx, rl]) _ ((d, od) :: (objsOf (setN ns' n0.k _) ++ ([(dx, odx'), (rl, listOf rv'.toArray n2'), (it, oi5)] ++ [(it2, { cls := .type "list_iterator", data := .fields #[.ref n0.la, .int 0 0] })]))) _ := C10.sub fun p hp => by
          rcases List.mem_cons.mp hp with rfl | hp
          · exact .tail _ (.head _)
          · rcases List.mem_append.mp hp with hp | hp
            · exact .tail _ (.tail _ (List.mem_append_left _ hp))
            · rcases List.mem_append.mp hp with hp | hp
              · exact .tail _ (.tail _ (List.mem_append_right _ hp))
              · rcases List.mem_singleton.mp hp with rfl; exact .head _
        refine ⟨0, _, _, _, _, rv', rn', _, n2', rfl, rfl, C11, rfl, rfl, N9.cx C9 C11, hm1, hm2, ?_, hrv', ?_, by exact ar114, ?_, ?_⟩
        · rw [List.take_zero, List.foldl_nil, ct_np, hk0]
        · rw [addr_setN (same_np _ _), had]
        · intro n hn
          obtain ⟨n', hn', ⟨_, rfl⟩ | ⟨_, rfl⟩⟩ := mem_setN hn
          · exact hs' n' hn'
          · exact hs' n hn'
        · exact ⟨_, mem_setN_at hn0 rfl, rfl, rfl⟩
  · have C4 : Cx w mg mb gg gg.objs.size (fp d ns [dx, rl]) _ ((d, od) :: (objsOf ns ++ [(dx, dictOf (sEnt w t1 t2 t3 t4 (.ref d) (.ref rl) (.int P tP) (.int (F + ((0 : Nat) : Int)) tF)) n1), (rl, listOf rv.toArray n2), (it, { cls := .type "tuple_iterator", data := .fields #[.ref s.heap.objs.size, .int 0 0] })])) _ := C3.sub fun p hp => by
      rw [show F + ((0 : Nat) : Int) = F from by exact ar115] at hp
      rcases List.mem_cons.mp hp with rfl | hp
      · exact .tail _ (.head _)
      · rcases List.mem_append.mp hp with hp | hp
        · exact .tail _ (.tail _ (List.mem_append_left _ hp))
        · simp only [List.mem_cons, List.not_mem_nil, or_false] at hp
          rcases hp with rfl | rfl | rfl
          · exact .tail _ (.tail _ (List.mem_append_right _ (.head _)))
          · exact .tail _ (.tail _ (List.mem_append_right _ (.tail _ (.head _))))
          · exact .head _
    exact ⟨0, _, _, _, ns, rv, rn, _, tF, n1, n2, rfl, rfl, C4, rfl, rfl, N2.cx C2 C4, rfl, rfl, rfl, hr, rfl, hok, by exact ar116 hrl, hsc⟩
end
end Mine

namespace Mine
section
variable {w : World} {mg mb : Str → Option Value} {g : Heap} {L : Addr} {D : List Addr} {m : Str → Option Value} {own : List (Addr × Obj)} {s : Shared} {A : Around} {E : Value → Shared → Prop}
  {x : Str} {pos : Pos} {v : Value} {env : Env} {R : Result → Shared → Prop}

/-- the names, for any frame -/
theorem e_loc {Q : Value → Shared → Prop} (C : Cx w mg mb g L D m own s.heap) (hv : m x = some v) (h : Q v s) (hL : env.locals = L := by rfl) (hk : env.scope.kind = .function := by rfl) (hl : env.kindOf x = some .local := by rfl)
    (hd : (x == ("__debug__" : Str)) = false := by rfl) : wpAny (model pg w) A (eval (.Name x pos) env) Q E s := by
  subst hL; exact wpAny_Name (wpAny_loadName_local hk hl C.ns hv h) hd
theorem e_glob {Q : Value → Shared → Prop} (C : Cx w mg mb g L D m own s.heap) (e : nsIn (Kf w) mainGlobals x = some (some v)) (h : Q v s) (hG : env.globals = mainGlobals := by rfl) (hk : env.scope.kind = .function := by rfl) (hl : env.kindOf x = some .globalImplicit := by rfl)
    (hd : (x == ("__debug__" : Str)) = false := by rfl) : wpAny (model pg w) A (eval (.Name x pos) env) Q E s := by
  refine wpAny_Name ?_ hd
  rw [loadName_read hk hl]
  unfold loadGlobal
  rw [hG]
  refine wpAny_bind (wpAny_nsGet C.G.g ?_)
  rw [mg_of C.G.X C.G.g e]
  exact wpAny_pure h
theorem e_built {Q : Value → Shared → Prop} (C : Cx w mg mb g L D m own s.heap) (e : nsIn (Kf w) mainGlobals x = some none) (hv : bootBuiltins x = some v) (hx : x ≠ "__name__") (h : Q v s) (hG : env.globals = mainGlobals := by rfl) (hB : env.builtins = builtinsNs := by rfl)
    (hk : env.scope.kind = .function := by rfl) (hl : env.kindOf x = some .globalImplicit := by rfl)
    (hd : (x == ("__debug__" : Str)) = false := by rfl) : wpAny (model pg w) A (eval (.Name x pos) env) Q E s := by
  refine wpAny_Name ?_ hd
  rw [loadName_read hk hl]
  unfold loadGlobal
  rw [hG, hB]
  refine wpAny_bind (wpAny_nsGet C.G.g ?_)
  rw [mg_none_of C.G.X C.G.g e]
  refine wpAny_bind (wpAny_nsGet C.G.b ?_)
  rw [C.G.nb x hx, hv]
  exact wpAny_pure h
theorem e_as {Q : Unit → Shared → Prop} (C : Cx w mg mb g L D m own s.heap) (h : ∀ h', Cx w mg mb g L D (fun y => if y = x then some v else m y) own h' → Q () { s with heap := h', toks := s.toks + 1 })
    (hL : env.locals = L := by rfl) (hk : env.scope.kind = .function := by rfl) (hl : env.kindOf x = some .local := by rfl) : wpAny (model pg w) A (assign (.Name x pos) env v) Q E s := by
  subst hL
  show wpAny _ _ (standAt pos >>= fun _ => bindName env x v) _ _ _
  exact wpAny_bind (wpAny_standAt (wpAny_bindName (wpAny_storeName_local hl C.ns (fun h' hn hs => h h' (C.st hn hs)) (by rw [hk]; rfl))))

/-- a list comprehension of one clause, no captured names: down to its loop -/
theorem comp0 {elt target iter : Expr} {ifs : List Expr} {scope : Scope} {Q : Value → Shared → Prop}
    (h : wpAny (model pg w) A (eval iter env) (fun xv s₁ => wpAny (model pg w) A (pyIter xv) (fun it s₂ =>
      ∀ h₄, h₄.Ns (s₂.heap.push (listOf #[] 0)).objs.size (fun _ => none) → (∀ b o, (s₂.heap.push (listOf #[] 0)).get? b = some o → h₄.get? b = some o) →
        (∀ (E' : Value → Shared → Prop) (Q' : Value → Shared → Prop), Q' it { s₂ with heap := h₄ } → wpAny (model pg w) A (pyIter it) Q' E' { s₂ with heap := h₄ }) ∧
        codeAny (model pg w) A (.compLoop (.ListComp elt [⟨target, iter, ifs, 0⟩] scope pos) 0 it (.ref s₂.heap.objs.size) (compEnv scope (s₂.heap.push (listOf #[] 0)).objs.size env))
          (fun r s' => match r with
            | .ok _ => ∃ m, s'.heap.Ns (s₂.heap.push (listOf #[] 0)).objs.size m ∧ ∀ h', Heap.SameBut (s₂.heap.push (listOf #[] 0)).objs.size s'.heap h' → Q (.ref s₂.heap.objs.size) { s' with heap := h' }
            | .error x => False) { s₂ with heap := h₄ }) E s₁) E s)
    (hfree : (scope.names.all fun x => x.2 != .free && x.2 != .cell) = true := by rfl) (hkind : scope.kind = .function := by rfl) (hnames : (scope.names.all fun x => x.2 != .local || decide (scope.names.lookup x.1 = some .local)) = true := by rfl)
    (hs : ∀ x, foldedSetIterable iter env x = pure x := by intro _; rfl) :
    wpAny (model pg w) A (eval (.ListComp elt [⟨target, iter, ifs, 0⟩] scope pos) env) Q E s := by
  have hf1 : ∀ x ∈ scope.names, x.2 ≠ .free := fun x hx => by have := List.all_eq_true.mp hfree x hx; simp at this; exact this.1
  have hf2 : ∀ x ∈ scope.names, x.2 ≠ .cell := fun x hx => by have := List.all_eq_true.mp hfree x hx; simp at this; exact this.2
  have hn : ∀ x ∈ scope.names, x.2 = .local → scope.names.lookup x.1 = some .local := fun x hx e => by have := List.all_eq_true.mp hnames x hx; rw [e] at this; simpa using this
  refine wpAny_ListComp hf1 hkind hn (wpAny_mono h (fun xv s₁ h₁ => wpAny_mono h₁ (fun it s₂ h₂ => ?_) fun _ _ q => q) fun _ _ q => q) hs
  refine wpAny_newList ?_ (Nat.zero_le _)
  refine wpAny_newFunctionEnv (s := { s₂ with heap := s₂.heap.push (listOf #[] 0) }) hf2 (fun _ q => nomatch q) (fun h₄ hns hsb => ?_) hkind
  have hk : ∀ b o, (s₂.heap.push (listOf #[] 0)).get? b = some o → h₄.get? b = some o := fun b o e => hsb.extBut b o (Nat.ne_of_lt (Heap.lt_size e)) (Heap.get?_push_of_some _ e)
  obtain ⟨z1, z2⟩ := h₂ h₄ hns hk
  have z3 := codeAny_mono z2 (R' := fun r s' => ∃ m, s'.heap.Ns (s₂.heap.push (listOf #[] 0)).objs.size m ∧ ∀ h', Heap.SameBut (s₂.heap.push (listOf #[] 0)).objs.size s'.heap h' →
          match r with | .ok _ => Q (.ref s₂.heap.objs.size) { s' with heap := h' } | .error x => wpAny (model pg w) A (passOn "comprehension.variables-let-go" x (compEnv scope (s₂.heap.push (listOf #[] 0)).objs.size env)) Q E { s' with heap := h' }) fun r s' q => by
    cases r with
    | ok f => exact q
    | error x => exact q.elim
  exact codeAny_compStart_list z3 (z1 _ _ z3)
end
end Mine

namespace Mine
/-- the frames of the stack lie in the heap -/
def Fms (h : Heap) (l : List Env) : Prop := ∀ env ∈ l, env.scope.kind ≠ .module ∧ ∃ L o, env.frame = some L ∧ h.get? L = some o ∧ ∀ vs, o.data ≠ .fields vs
abbrev frs (l : List Env) : List Addr := l.filterMap (·.frame)
section
variable {M : Model} {A : Around} {E : Value → Shared → Prop} {s : Shared} {env : Env} {outer : List Env}
theorem Fms.fun {h base : Heap} : ∀ {l : List Env}, Fms h l → (∀ b ∈ frs l, base.get? b = none) → h.FunFrames base l
  | [], _, _ => trivial
  | env :: l, F, hb => by
    obtain ⟨hk, L, o, hf, ho, hd⟩ := F env (.head _)
    refine ⟨hk, ⟨L, o, hf, hb L (by simp [frs, hf]), ho, hd⟩, Fms.fun (fun e he => F e (.tail _ he)) fun b hb' => hb b ?_⟩
    simp only [frs, List.mem_filterMap] at hb' ⊢
    obtain ⟨e, he, q⟩ := hb'
    exact ⟨e, .tail _ he, q⟩

theorem note_new {L e : Addr} {oe : Obj} {vs : Array Value} {Q : Unit → Shared → Prop} (hfr : A.frames = some (env :: outer)) (F : Fms s.heap (env :: outer)) (hf : env.frame = some L)
    (he : s.heap.get? e = some oe) (hd : oe.data = .fields vs) (h1 : vs[1]? = some .none)
    (h : ∀ h', (∀ b o, s.heap.get? b = some o → b ∉ frs (env :: outer) → b ≠ e → h'.get? b = some o) → (∀ b o, s.heap.get? b = some o → (∀ vs, o.data ≠ .fields vs) → ∃ sl, h'.get? b = some { o with slots := sl }) →
      h'.Traced (hideAll s.heap (e :: frs (env :: outer))) e oe.cls → Q () { s with heap := h' }) :
    wpAny M A (noteFrame (.ref e) env) (fun _ s' => wpAny M A (setFlight (.ref e) none) Q E s') E s := by
  have FF : s.heap.FunFrames (hideAll s.heap (e :: frs (env :: outer))) (env :: outer) := F.fun fun b hb => hideAll_none _ (.tail _ hb)
  unfold noteFrame
  simp only [hf]
  refine wpAny_bind (wpAny_field he hd h1 ?_)
  rw [if_neg (by decide)]
  refine wpAny_newEntry hfr FF hf he (fun b o e => of_hideAll _ e) (hideAll_none _ (.head _)) hd (Array.getElem?_eq_some_iff.mp h1).1 fun h' X => ?_
  exact h h' (fun b o e1 e2 e3 => X.1 b o (hideAll_get _ e1 (by simp only [List.mem_cons, not_or]; exact ⟨e3, e2⟩))) X.2.2.2 X.2.2.1
end
end Mine

namespace Mine
section
variable {w : World} {A : Around} {E : Value → Shared → Prop}
theorem lk_ga : Slot "list_iterator" "__getattribute__" "object.__getattribute__" :=
  .of (owner := "object") (n := "__getattribute__") (by rw [typeLookup_type, builtinLookup_eq_fast]; kernel_rfl) (by decide +kernel) (by decide +kernel) (by decide +kernel)
    (by first | exact .inl (by decide +kernel) | exact .inr (by decide +kernel)) (by rw [isSubtype_type]; kernel_rfl)
theorem lk_wd : Slot "wrapper_descriptor" "__get__" "wrapper_descriptor.__get__" :=
  .of (owner := "wrapper_descriptor") (n := "__get__") (by rw [typeLookup_type, builtinLookup_eq_fast]; kernel_rfl) (by decide +kernel) (by decide +kernel) (by decide +kernel)
    (by first | exact .inl (by decide +kernel) | exact .inr (by decide +kernel)) (by rw [isSubtype_type]; kernel_rfl)
theorem en_ga : entryFor table "object.__getattribute__" = some Builtin.«object.__getattribute__» := entryFor_of_tree (by kernel_rfl)
theorem en_wd : entryFor table "wrapper_descriptor.__get__" = some Builtin.«wrapper_descriptor.__get__» := entryFor_of_tree (by kernel_rfl)
theorem ty_nx : typeOf (.builtin "list_iterator.__next__") = pure (.type "wrapper_descriptor") := by show builtinType _ = _; rw [builtinType_eq_fast]; kernel_rfl
theorem lk_wset : typeLookup (.type "wrapper_descriptor") "__set__" = pure none := by rw [typeLookup_type, builtinLookup_eq_fast]; kernel_rfl
theorem lk_wdel : typeLookup (.type "wrapper_descriptor") "__delete__" = pure none := by rw [typeLookup_type, builtinLookup_eq_fast]; kernel_rfl
theorem get_next {h : Heap} {g : Array GenState} {d : Drawn} {t : Nat} {os : OsState} {it l : Addr} {i : Nat} {Q : Value → Shared → Prop} (ho : h.get? it = some { cls := .type "list_iterator", data := .fields #[.ref l, .int i 0] })
    (hq : Q (.ref h.objs.size) ⟨h.push { cls := .type "method-wrapper", data := .fields #[.builtin "list_iterator.__next__", .ref it] }, g, d, t + 1, os⟩) : wpAny (model pg w) A (getAttr (.ref it) "__next__" true) Q E ⟨h, g, d, t, os⟩ := by
  have L0 : Looks (model pg w) h (typeOf (.ref it)) (.type "list_iterator") := (Looks.ld ho).andThen .now
  unfold getAttr getAttrBy
  refine wpAny_bind (wpAny_mkText (wpAny_holding (wpAny_bind (L0.at ?_))))
  rw [lk_ga.lookup]
  refine wpAny_bind (wpAny_pure ?_)
  show wpAny _ _ (getAttrByItsOwn _ _ _ _ _ _) _ _ _
  unfold getAttrByItsOwn
  refine wpAny_bind (wpAny_pure (wpAny_bind (wpAny_attempt (wpAny_holding ?_))))
  show wpAny _ _ (boundAndCalled _ _ _) _ _ _
  unfold boundAndCalled
  rw [lk_ga.bind]
  refine wpAny_bind (wpAny_pure ?_)
  refine wpAny_call (codeAny_call_builtin lk_ga.plain en_ga (lk_ga.check _ _ _ _ _ _ _ _ ⟨_, ho, rfl⟩ (by unfold argsOk; kernel_rfl) ?_))
  show wpAny _ _ (typeOf (.ref it) >>= _) _ _ _
  refine wpAny_bind (L0.at ?_)
  unfold Builtin.ObjectAttr.find
  rw [slot_listiter_next.lookup]
  refine wpAny_bind (wpAny_bind (wpAny_pure ?_))
  have L1 : Looks (model pg w) h (specialOf (.builtin "list_iterator.__next__") "__get__") (some (.builtin "wrapper_descriptor.__get__")) := by
    unfold specialOf
    rw [ty_nx]
    exact Looks.now.andThen (Looks.of_pure lk_wd.lookup)
  have L2 : Looks (model pg w) h (Builtin.ObjectAttr.takesStores (.builtin "list_iterator.__next__")) false := by
    unfold Builtin.ObjectAttr.takesStores specialOf
    rw [ty_nx]
    refine (Looks.now.andThen (Looks.of_pure lk_wset)).andThen ?_
    exact (Looks.now.andThen (Looks.of_pure lk_wdel)).andThen .now
  refine wpAny_bind (L1.at (wpAny_bind (wpAny_bind (L2.at (wpAny_pure ?_)))))
  show wpAny _ _ (Builtin.ObjectAttr.ownThenClass _ _ _ _) _ _ _
  unfold Builtin.ObjectAttr.ownThenClass Builtin.ObjectAttr.inOwnDict Builtin.ObjectAttr.ownDict
  repeat (first | with_reducible refine wpAny_call ?_ | lk)
  refine codeAny_call_builtin lk_wd.plain en_wd (lk_wd.check _ _ _ _ _ _ _ _ ?_ (by unfold argsOk; kernel_rfl) ?_)
  · exact ty_nx
  · unfold Builtin.«wrapper_descriptor.__get__»
    repeat lk
    exact hq

theorem cb_nx (v : Value) : checkBoundCall "list_iterator.__next__" ⟨[v], []⟩ = pure () := by kernel_rfl
theorem pl_nx : (A.under (.builtin "list_iterator.__next__" ⟨[v], []⟩)) = A.in1 := Around.under_plainId slot_listiter_next.plain _
theorem call_mw_item {s : Shared} {mw it l : Addr} {i : Nat} {items : Array Value} {v : Value} {om oi : Obj} {Q : Value → Shared → Prop} (hm : s.heap.get? mw = some om) (hmc : om.cls = .type "method-wrapper") (hmd : om.data = .fields #[.builtin "list_iterator.__next__", .ref it])
    (hi : s.heap.get? it = some oi) (hic : oi.cls = .type "list_iterator") (hid : oi.data = .fields #[.ref l, .int i 0]) (hl : s.heap.IsList l items) (hv : items[i]? = some v)
    (h : ∀ h' oi', Heap.SameBut it s.heap h' → h'.get? it = some oi' → oi'.cls = .type "list_iterator" → oi'.data = .fields #[.ref l, .int (i + 1 : Nat) 0] → Q v { s with heap := h' }) : wpAny (model pg w) A (call (.ref mw) []) Q E s := by
  refine wpAny_call (codeAny_of_tree ?_)
  show wpAny _ _ (callAny (.ref mw) _) _ _ _
  unfold callAny
  refine wpAny_bind (wpAny_load hm ?_)
  rw [hmd, hmc]
  dsimp only
  rw [if_pos (by decide)]
  show wpAny _ _ (if (Value.type "method-wrapper" != Value.type "method") = true then _ else _) _ _ _
  rw [if_pos (by decide), cb_nx]
  refine wpAny_bind (wpAny_pure (wpAny_pure ⟨plainId_quiet slot_listiter_next.plain _, codeAny_builtin entry_listiter_next ?_⟩))
  show wpAny _ _ (field (.ref it) 0 >>= _) _ _ s
  refine wpAny_bind (wpAny_field hi hid (x := .ref l) rfl ?_)
  show wpAny _ _ (if (Value.ref l == Value.none) = true then _ else _) _ _ s
  rw [if_neg (show ¬ ((Value.ref l == Value.none) = true) from Bool.false_ne_true)]
  show wpAny _ _ (field (.ref it) 1 >>= _) _ _ s
  refine wpAny_bind (wpAny_field hi hid (x := .int i 0) rfl ?_)
  show wpAny _ _ (seqItems? (.ref l) >>= _) _ _ s
  obtain ⟨ol, hol, hcl, nl, hdl⟩ := hl
  refine wpAny_bind (wpAny_seqItems hol hdl ?_)
  simp only [Int.toNat_natCast, hv]
  refine wpAny_bind (wpAny_setField hi hid (by simp) (wpAny_pure ?_))
  refine h _ _ (Heap.SameBut.update ..) (Heap.get?_update_self _ hi (Obj.isFreed_of_fields (Obj.data_mapFields hid _))) ((Obj.cls_mapFields ..).trans hic) ?_
  rw [Obj.data_mapFields hid]; simp [rawInt]

/-- at the list's end the wrapper raises StopIteration, a new object -/
theorem call_mw_end {s : Shared} {mw it l : Addr} {i : Nat} {items : Array Value} {om oi : Obj} {Q : Value → Shared → Prop} (hh : A.handled = none) (hm : s.heap.get? mw = some om) (hmc : om.cls = .type "method-wrapper") (hmd : om.data = .fields #[.builtin "list_iterator.__next__", .ref it])
    (hi : s.heap.get? it = some oi) (hic : oi.cls = .type "list_iterator") (hid : oi.data = .fields #[.ref l, .int i 0]) (hl : s.heap.IsList l items) (hv : items[i]? = none)
    (h : ∀ h' e oe vs, Heap.ExtBut it s.heap h' → s.heap.objs.size ≤ e → h'.get? e = some oe → oe.cls = .type "StopIteration" → oe.data = .fields vs → vs[1]? = some .none → E (.ref e) { s with heap := h' }) : wpAny (model pg w) A (call (.ref mw) []) Q E s := by
  refine wpAny_call (codeAny_of_tree ?_)
  show wpAny _ _ (callAny (.ref mw) _) _ _ _
  unfold callAny
  refine wpAny_bind (wpAny_load hm ?_)
  rw [hmd, hmc]
  dsimp only
  rw [if_pos (by decide)]
  show wpAny _ _ (if (Value.type "method-wrapper" != Value.type "method") = true then _ else _) _ _ _
  rw [if_pos (by decide), cb_nx]
  refine wpAny_bind (wpAny_pure (wpAny_pure ⟨plainId_quiet slot_listiter_next.plain _, codeAny_builtin entry_listiter_next ?_⟩))
  show wpAny _ _ (field (.ref it) 0 >>= _) _ _ s
  refine wpAny_bind (wpAny_field hi hid (x := .ref l) rfl ?_)
  show wpAny _ _ (if (Value.ref l == Value.none) = true then _ else _) _ _ s
  rw [if_neg (show ¬ ((Value.ref l == Value.none) = true) from Bool.false_ne_true)]
  show wpAny _ _ (field (.ref it) 1 >>= _) _ _ s
  refine wpAny_bind (wpAny_field hi hid (x := .int i 0) rfl ?_)
  show wpAny _ _ (seqItems? (.ref l) >>= _) _ _ s
  obtain ⟨ol, hol, hcl, nl, hdl⟩ := hl
  refine wpAny_bind (wpAny_seqItems hol hdl ?_)
  simp only [Int.toNat_natCast, hv]
  refine wpAny_bind (wpAny_rule (wpAny_bind (wpAny_setField hi hid (by simp) ?_)))
  show wpAny _ _ (newExc (.type "StopIteration") [] >>= _) _ _ _
  refine wpAny_bind ?_
  simp only [newExc, newTuple]
  refine wpAny_bind (wpAny_newObj_type ?_ (by size_fits))
  refine wpAny_bind (m := firstArgMember _ _) (wpAny_of_eq (a := Value.none) (by first | rfl | (simp only [firstArgMember]; rfl)) ?_)
  refine wpAny_newObj_type ?_ (by size_fits)
  simp only [raiseNew]
  refine wpAny_bind (wpAny_handled ?_)
  rw [show (A.under (.builtin "list_iterator.__next__" ⟨[#[Value.builtin "list_iterator.__next__", Value.ref it][1]], []⟩)).handled = none from hh]
  refine wpAny_bind (wpAny_pure (wpAny_throw ?_))
  refine h _ _ _ _ (((Heap.SameBut.update ..).extBut.push _).push _) ?_ (Heap.get?_push_size _ rfl) rfl rfl ?_
  · rw [Heap.size_push, Heap.size_update]; exact Nat.le_succ _
  · rfl
end
end Mine

namespace Mine
section
variable {w : World} {mg mb : Str → Option Value} {g : Heap} {L : Addr} {D : List Addr} {m : Str → Option Value} {own : List (Addr × Obj)} {h : Heap}
theorem ns_slots {h h' : Heap} {a : Addr} {m : Str → Option Value} (N : h.Ns a m) (hs : ∀ o, h.get? a = some o → ∃ sl, h'.get? a = some { o with slots := sl }) : h'.Ns a m := by
  obtain ⟨o, es, ep, ho, hd, r⟩ := N
  obtain ⟨sl, e⟩ := hs o ho
  exact ⟨_, es, ep, e, hd, r⟩
/-- behind a call that may have marked the frame's own object too -/
theorem Cx.callL (C : Cx w mg mb g L D m own h) {h' : Heap} {D' : List Addr} (hk : ∀ b o, h.get? b = some o → b ∉ D' → b ≠ L → h'.get? b = some o) (hL : ∀ o, h.get? L = some o → ∃ sl, h'.get? L = some { o with slots := sl })
    (hD : ∀ a ∈ D', (hideAll g D).get? a = none) {own' : List (Addr × Obj)}
    (hown : ∀ p ∈ own', (p ∈ own ∧ p.1 ∉ D') ∨ (h'.get? p.1 = some p.2 ∧ p.1 ≠ L ∧ (hideAll g D).get? p.1 = none)) : Cx w mg mb g L D m own' h' := by
  have nL : ∀ b o, (hideAll g D).get? b = some o → b ≠ L := fun b o e q => by
    have := Heap.lt_size e
    exact absurd this (Nat.not_lt.mpr (by rw [q]; exact C.fr.above))
  refine C.of ⟨ns_slots C.ns hL, fun b o e => hk b o (C.fr.keep b o e) (fun q => by rw [hD b q] at e; cases e) (nL b o e), C.fr.above⟩ fun p hp => ?_
  rcases hown p hp with ⟨q, r⟩ | ⟨q, r1, r2⟩
  · have y := C.nw p q; exact ⟨hk _ _ y.1 r y.2.1, y.2⟩
  · exact ⟨q, r1, r2⟩

/-- the outer frames among the owned objects -/
structure Ofs (outer : List Env) (fr : List (Addr × Obj)) : Prop where
  ok : ∀ env ∈ outer, env.scope.kind ≠ .module ∧ ∃ p ∈ fr, env.frame = some p.1
  data : ∀ p ∈ fr, ∀ vs, p.2.data ≠ .fields vs
  sub : ∀ p ∈ fr, p.1 ∈ frs outer
/-- the frames marked: other slots, all else as it was -/
def Marked (fr fr' : List (Addr × Obj)) : Prop := fr'.map (·.1) = fr.map (·.1) ∧ ∀ p' ∈ fr', ∃ p ∈ fr, p'.1 = p.1 ∧ ∃ sl, p'.2 = { p.2 with slots := sl }
theorem Marked.refl (fr : List (Addr × Obj)) : Marked fr fr := ⟨rfl, fun p hp => ⟨p, hp, rfl, p.2.slots, rfl⟩⟩
theorem Marked.trans {a b c : List (Addr × Obj)} (x : Marked a b) (y : Marked b c) : Marked a c := ⟨y.1.trans x.1, fun p hp => by
  obtain ⟨q, hq, e1, sl, e2⟩ := y.2 p hp
  obtain ⟨r, hr, e3, sl', e4⟩ := x.2 q hq
  exact ⟨r, hr, e1.trans e3, sl, by rw [e2, e4]⟩⟩
theorem Ofs.marked {outer : List Env} {fr fr' : List (Addr × Obj)} (F : Ofs outer fr) (M : Marked fr fr') : Ofs outer fr' := by
  refine ⟨fun env he => ?_, fun p hp vs => ?_, fun p hp => ?_⟩
  · obtain ⟨hk, p, hp, hf⟩ := F.ok env he
    have : p.1 ∈ fr'.map (·.1) := M.1 ▸ List.mem_map_of_mem hp
    obtain ⟨q, hq, e⟩ := List.mem_map.mp this
    exact ⟨hk, q, hq, by rw [hf, e]⟩
  · obtain ⟨q, hq, _, sl, e⟩ := M.2 p hp
    rw [e]; exact F.data q hq vs
  · obtain ⟨q, hq, e, _⟩ := M.2 p hp
    rw [e]; exact F.sub q hq
end
end Mine

namespace Mine
section
variable {w : World} {mg mb : Str → Option Value} {g : Heap} {L : Addr} {D : List Addr} {m : Str → Option Value} {rest fr : List (Addr × Obj)} {s : Shared} {A : Around} {E : Value → Shared → Prop} {env : Env} {outer : List Env}

theorem Ofs.frs (O : Ofs outer fr) {b : Addr} (hb : b ∈ frs outer) : ∃ p ∈ fr, p.1 = b := by
  obtain ⟨e, he, q⟩ := List.mem_filterMap.mp hb
  obtain ⟨_, p, hp, hf⟩ := O.ok e he
  exact ⟨p, hp, Option.some.inj (hf.symm.trans q)⟩

/-- a new exception noted in the frame: the owned stay, the frames are marked -/
theorem note_cx {e : Addr} {oe : Obj} {vs : Array Value} {Q : Unit → Shared → Prop} (C : Cx w mg mb g L D m (rest ++ fr) s.heap) (O : Ofs outer fr) (hr : ∀ p ∈ rest, p.1 ∉ frs outer) (hA : A.frames = some (env :: outer)) (hf : env.frame = some L) (hk : env.scope.kind = .function)
    (he : s.heap.get? e = some oe) (hd : oe.data = .fields vs) (h1 : vs[1]? = some .none) (hen : (hideAll g D).get? e = none) (heL : e ≠ L) (heo : ∀ p ∈ rest ++ fr, p.1 ≠ e)
    (h : ∀ h' fr', Marked fr fr' → Cx w mg mb g L D m (rest ++ fr') h' → (∃ oe vs T oT ts, h'.get? e = some oe ∧ oe.cls = (s.heap.get? e).elim oe.cls (·.cls) ∧ oe.data = .fields vs ∧ vs[1]? = some (.ref T) ∧ h'.get? T = some oT ∧ oT.data = .fields ts ∧ ts[3]? = some .none ∧
      T ≠ e ∧ T ≠ L ∧ (hideAll g D).get? T = none ∧ ∀ p ∈ rest ++ fr', p.1 ≠ T) → Q () { s with heap := h' }) :
    wpAny (model pg w) A (noteFrame (.ref e) env) (fun _ s' => wpAny (model pg w) A (setFlight (.ref e) none) Q E s') E s := by
  obtain ⟨oL, esL, epL, hoL, hdL, rL⟩ := C.ns
  have F : Fms s.heap (env :: outer) := fun en hen => by
    rcases List.mem_cons.mp hen with rfl | hen
    · exact ⟨by rw [hk]; decide, L, oL, hf, hoL, fun vs q => by rw [hdL] at q; cases q⟩
    · obtain ⟨hk', p, hp, hpf⟩ := O.ok en hen
      exact ⟨hk', p.1, p.2, hpf, C.get (List.mem_append_right _ hp), O.data p hp⟩
  have Lfr : L ∉ frs outer := fun q => by obtain ⟨p, hp, e⟩ := O.frs q; exact C.ne (List.mem_append_right _ hp : (p.1, p.2) ∈ _) e
  have mfr : ∀ b, b ∈ frs (env :: outer) ↔ b = L ∨ b ∈ frs outer := fun b => by simp [Mine.frs, hf]
  refine note_new hA F hf he hd h1 fun h' k1 k2 tr => ?_
  have up : ∀ p ∈ fr, ∃ sl, h'.get? p.1 = some { p.2 with slots := sl } := fun p hp => k2 _ _ (C.get (List.mem_append_right _ hp)) (O.data p hp)
  let fr' : List (Addr × Obj) := fr.map fun p => (p.1, (h'.get? p.1).getD p.2)
  have M : Marked fr fr' := by
    refine ⟨by simp [fr', List.map_map, Function.comp_def], fun p' hp' => ?_⟩
    obtain ⟨p, hp, rfl⟩ := List.mem_map.mp hp'
    obtain ⟨sl, q⟩ := up p hp
    exact ⟨p, hp, rfl, sl, by simp [q]⟩
  have Dn : ∀ a ∈ e :: frs outer, (hideAll g D).get? a = none := fun a ha => by
    rcases List.mem_cons.mp ha with rfl | ha
    · exact hen
    · obtain ⟨p, hp, rfl⟩ := O.frs ha; exact (C.nw p (List.mem_append_right _ hp)).2.2
  have C' : Cx w mg mb g L D m (rest ++ fr') h' := C.callL (D' := e :: frs outer) (fun b o eb q1 q2 => by
      simp only [List.mem_cons, not_or] at q1
      exact k1 b o eb (fun z => ((mfr b).mp z).elim q2 q1.2) q1.1)
    (fun o eo => k2 L o eo (by rw [hoL] at eo; cases eo; intro vs q; rw [hdL] at q; cases q)) Dn fun p hp => by
      rcases List.mem_append.mp hp with hp | hp
      · exact .inl ⟨List.mem_append_left _ hp, fun z => by
          rcases List.mem_cons.mp z with z | z
          · exact heo p (List.mem_append_left _ hp) z
          · exact hr p hp z⟩
      · obtain ⟨q, hq, rfl⟩ := List.mem_map.mp hp
        obtain ⟨sl, z⟩ := up q hq
        have y := C.nw q (List.mem_append_right _ hq)
        exact .inr ⟨by simp [z], y.2.1, y.2.2⟩
  obtain ⟨oe2, vs2, T, oT, ts, a1, a2, a3, a4, a5, a6, a7, a8, a9⟩ := tr
  have TL : T ≠ L := fun z => by
    obtain ⟨o2, e2, p2, z1, z2, _⟩ := C'.ns
    rw [z, z1] at a7; cases a7; rw [z2] at a8; cases a8
  refine h h' fr' M C' ⟨oe2, vs2, T, oT, ts, a1, by rw [he]; exact a2, a3, a4, a7, a8, a9, a6, TL, ?_, fun p hp z => ?_⟩
  · cases q : (hideAll g D).get? T with
    | none => rfl
    | some o =>
      have h3 := C.fr.keep T o q
      have : T ∉ e :: frs (env :: outer) := fun z => by
        rcases List.mem_cons.mp z with z | z
        · exact a6 z
        · rcases (mfr T).mp z with z | z
          · exact TL z
          · rw [Dn T (.tail _ z)] at q; cases q
      rw [hideAll_get _ h3 this] at a5; cases a5
  · rcases List.mem_append.mp hp with hp | hp
    · have h3 := C.get (List.mem_append_left _ hp : (p.1, p.2) ∈ rest ++ fr)
      have : p.1 ∉ e :: frs (env :: outer) := fun y => by
        rcases List.mem_cons.mp y with y | y
        · exact heo p (List.mem_append_left _ hp) y
        · rcases (mfr p.1).mp y with y | y
          · exact C.ne (List.mem_append_left _ hp : (p.1, p.2) ∈ rest ++ fr) y
          · exact hr p hp y
      rw [z] at h3 this
      rw [hideAll_get _ h3 this] at a5; cases a5
    · have h3 := (C'.nw p (List.mem_append_right _ hp)).1
      rw [z, a7] at h3
      have h4 := (O.marked M).data p hp ts
      rw [← Option.some.inj h3] at h4
      exact h4 a8

/-- a new built-in exception caught by the frame's own clause -/
theorem caught_cx {e : Addr} {oe : Obj} {vs : Array Value} {X T : String} {x : Str} {np hp : Pos} {b₀ : Stmt} {suite : List Stmt} {hs : List ExceptHandler} {Q : Flow → Shared → Prop} (C : Cx w mg mb g L D m (rest ++ fr) s.heap) (O : Ofs outer fr) (hr : ∀ p ∈ rest, p.1 ∉ frs outer)
    (hA : A.frames = some (env :: outer)) (hf : env.frame = some L) (hk : env.scope.kind = .function)
    (he : s.heap.get? e = some oe) (hc : oe.cls = .type X) (hd : oe.data = .fields vs) (h1 : vs[1]? = some .none) (hen : (hideAll g D).get? e = none) (heL : e ≠ L) (heo : ∀ p ∈ rest ++ fr, p.1 ≠ e)
    (hexc : isSubtype (.type T) (.type "BaseException") = pure true) (hnt : isSubtype (.type ((Manifest.find? T).elim "type" fun x => x.metatype)) (.type "tuple") = pure false) (hsub : isSubtype (.type X) (.type T) = pure true)
    (ex : nsIn (Kf w) mainGlobals x = some none) (hv : bootBuiltins x = some (.type T)) (hx : x ≠ "__name__") (hG : env.globals = mainGlobals) (hB : env.builtins = builtinsNs) (hl : env.kindOf x = some .globalImplicit) (hdbg : (x == ("__debug__" : Str)) = false)
    (h : ∀ h' fr' E'', Marked fr fr' → Cx w mg mb g L D m (rest ++ fr') h' → wpAny (model pg w) (A.mark (some (.ref e))) (execs (b₀ :: suite) env) Q E'' { s with heap := h' }) :
    wpAny (model pg w) A (noteFrame (.ref e) env) (fun _ s₂ => wpAny (model pg w) A (setFlight (.ref e) none) (fun _ s₃ => wpAny (model pg w) A (handleBy (.ref e) env (.ExceptHandler (some (.Name x np)) none (b₀ :: suite) hp :: hs)) Q E s₃) E s₂) E s := by
  refine note_cx C O hr hA hf hk he hd h1 hen heL heo fun h' fr' M C' tr => ?_
  obtain ⟨oe2, vs2, T', oT, ts, a1, a2, a3, a4, a5, a6, a7, a8, a9, a10, a11⟩ := tr
  rw [he] at a2
  have a2 : oe2.cls = .type X := a2.trans hc
  refine wpAny_handleBy_builtin hexc hnt hsub (e_built (s := { s with heap := h' }) C' ex hv hx ⟨rfl, ⟨oe2, a1, a2⟩, ?_⟩ hG hB hk hl hdbg)
  refine wpAny_setFlight_none (s := { s with heap := h' }) a1 a3 a4 a5 a6 (Array.getElem?_eq_some_iff.mp a7).1 ?_
  refine h _ fr' _ M (C'.callL (D' := [T']) (fun b o eb q _ => (Heap.get?_update_other _ _ (fun z => q (by simp [z]))).trans eb) (fun o eo => ⟨o.slots, (Heap.get?_update_other _ _ a9).trans eo⟩) (fun a ha => by rcases List.mem_singleton.mp ha with rfl; exact a10) fun p hp => .inl ⟨hp, by simpa using a11 p hp⟩)
end
end Mine

namespace Mine
section
variable {w : World} {mg mb : Str → Option Value} {s : Shared} {A : Around} {E : Value → Shared → Prop} {env : Env}
theorem kind_iter : builtinKind "iter" = none := by decide +kernel
theorem plain_iter : plainId "iter" = true := by decide +kernel
theorem entry_iter : entryFor table "iter" = some Builtin.«iter» := entryFor_of_tree (by kernel_rfl)
theorem args_iter (a : Value) : argsOk "iter" ⟨[a], []⟩ := by unfold argsOk; kernel_rfl
theorem boot_iter' : bootBuiltins "iter" = some (.builtin "iter") := by decide +kernel
/-- iter of a list -/
theorem iter_list {l : Addr} {items : Array Value} {Q : Value → Shared → Prop} (hl : s.heap.IsList l items)
    (h : Q (.ref s.heap.objs.size) { s with heap := s.heap.push { cls := .type "list_iterator", data := .fields #[.ref l, .int 0 0] } }) : wpAny (model pg w) A (call (.builtin "iter") [.ref l]) Q E s := by
  refine Calls.call_function_entry kind_iter plain_iter entry_iter (args_iter _) ?_
  unfold Builtin.«iter»
  refine wpAny_bind (wpAny_pure ?_)
  exact wpAny_bind (wpAny_pyIter_list hl (wpAny_pure ⟨_, rfl, h⟩))

/-- pop of a list's last -/
theorem pop_list {l : Addr} {ys : List Value} {v : Value} {n : Nat} {Q : Value → Shared → Prop} (hl : s.heap.get? l = some (listOf (ys ++ [v]).toArray n)) (hlen : ys.length ≤ 1000)
    (h : ∀ h' n', Heap.SameBut l s.heap h' → h'.get? l = some (listOf ys.toArray n') → Q v { s with heap := h' }) : wpAny (model pg w) A (call (.builtin "list.pop") [.ref l]) Q E s := by
  have hsz : (ys ++ [v]).toArray.size ≤ sizeLine := by rw [sizeLine_eq, List.size_toArray, List.length_append, List.length_singleton]; exact ar0 hlen
  have hy : (ys ++ [v]).toArray[(ys ++ [v]).toArray.size - 1]? = some v := by simp
  refine call_meets PySem.F.slot_list_pop ⟨_, hl, rfl⟩ PySem.F.entry_list_pop (PySem.F.args_list_pop_1 _) (PySem.MeetsSeq.list_pop_last l (ys ++ [v]).toArray n v hy hsz) ⟨hl, ?_⟩
  have e : ∃ n', Obj.mapSeq (fun xs => xs.eraseIdxIfInBounds ((ys ++ [v]).toArray.size - 1)) (listOf (ys ++ [v]).toArray n) = listOf ys.toArray n' := by
    have e0 : ((ys ++ [v]).toArray.eraseIdxIfInBounds ((ys ++ [v]).toArray.size - 1)) = ys.toArray := by
      have z : ∀ l : List Value, (l ++ [v]).eraseIdx l.length = l := fun l => by induction l with | nil => rfl | cons a l ih => simpa using ih
      simp [Array.eraseIdxIfInBounds, z]
    refine ⟨if ((ys ++ [v]).toArray.eraseIdxIfInBounds ((ys ++ [v]).toArray.size - 1)).size == (ys ++ [v]).toArray.size then n else n + 1, ?_⟩
    show Obj.mk _ _ (Data.seq ((ys ++ [v]).toArray.eraseIdxIfInBounds ((ys ++ [v]).toArray.size - 1)) _) _ = _
    simp only [e0]
  obtain ⟨n', e⟩ := e
  exact h _ n' (Heap.SameBut.update ..) (by rw [← e]; exact Heap.get?_update_self _ hl rfl)

/-- del d[k] -/
theorem del_dict {d : Addr} {kvs : List (Int × Value)} {k : Int} {t : Tok} {Q : Unit → Shared → Prop} (hD : s.heap.DictOf (ik w) d kvs) (hlen : kvs.length ≤ 1000) (hl : (valueAt kvs k).isSome = true)
    (h : ∀ h', h'.DictOf (ik w) d (without kvs k) → Heap.SameBut d s.heap h' → Q () { s with heap := h', toks := s.toks + 1 }) : wpAny (model pg w) A (delItem (.ref d) (.int k t)) Q E s :=
  wpAny_delItem_slot hD.typeIs (by decide) PySem.F.slot_dict_delitem (call_meetsIn PySem.F.slot_dict_delitem hD.typeIs PySem.F.entry_dict_delitem (PySem.F.args_dict_delitem_2 _ _) (meets_dict_delitem_pairs (ik w) d (is_int k t)) ⟨kvs, hD, (by rw [sizeLine_eq]; exact ar1 hlen), hl, fun h' hmm hs => h h' hmm hs⟩)

/-- an entry of the search's stack -/
structure Se where
  k : Int
  t : Tok
  mw : Addr
  it : Addr
  om : Obj
  oi : Obj
  la : Addr
  ep : Nat
  i : Nat
  sv : List Value
  sn : List Int
  v : Value
abbrev Se.objs (e : Se) : List (Addr × Obj) := [(e.mw, e.om), (e.it, e.oi)]
/-- what the search knows of its stack -/
structure SeOk (g : Heap) (e : Se) : Prop where
  mc : e.om.cls = .type "method-wrapper"
  md : e.om.data = .fields #[.builtin "list_iterator.__next__", .ref e.it]
  ic : e.oi.cls = .type "list_iterator"
  id : e.oi.data = .fields #[.ref e.la, .int (e.i : Nat) 0]
  ls : g.get? e.la = some (listOf e.sv.toArray e.ep)
  iv : IntsAre e.sv e.sn
  up : ∀ p ∈ e.sn, e.k < p
  le : e.i ≤ e.sv.length
end
end Mine

namespace Mine
/-- the search's objects -/
abbrev seOwn (st is sa da : Addr) (n1 n2 : Nat) (so od : Obj) (es : List Se) (tail : List (Addr × Obj)) : List (Addr × Obj) :=
  (st, listOf (es.map fun e => Value.int e.k e.t).toArray n1) :: (is, listOf (es.map fun e => Value.ref e.mw).toArray n2) :: (sa, so) :: (da, od) :: (es.flatMap Se.objs ++ tail)
/-- unseen work: nodes and their successors -/
def unseen (ns : List Nd) (S : Int → Bool) : Nat := ((ns.filter fun n => !S n.k).map fun n => n.sn.length + 1).sum
def unseenN (ns : List Nd) (S : Int → Bool) : Nat := (ns.filter fun n => !S n.k).length
def remain (es : List Se) : Nat := (es.map fun e => e.sv.length - e.i).sum

theorem unseen_add {ns : List Nd} {S : Int → Bool} {n0 : Nd} (hn : n0 ∈ ns) (hnd : (ns.map (·.k)).Nodup) (hs : S n0.k = false) :
    unseen ns (fun k' => S k' || decide (k' = n0.k)) + n0.sn.length + 1 = unseen ns S ∧ unseenN ns (fun k' => S k' || decide (k' = n0.k)) + 1 = unseenN ns S := by
  unfold unseen unseenN
  induction ns with
  | nil => cases hn
  | cons a r ih =>
    rw [List.map_cons, List.nodup_cons] at hnd
    by_cases e : a.k = n0.k
    · -- the node itself
      have hr : ∀ b ∈ r, b.k ≠ n0.k := fun b hb q => hnd.1 (List.mem_map.mpr ⟨b, hb, q.trans e.symm⟩)
      have h0 : n0 = a := by
        rcases List.mem_cons.mp hn with q | q
        · exact q
        · exact absurd rfl (hr n0 q)
      subst h0
      have hf : r.filter (fun n => !(S n.k || decide (n.k = n0.k))) = r.filter fun n => !S n.k := List.filter_congr fun b hb => by simp [hr b hb]
      rw [List.filter_cons, List.filter_cons, hf]
      simp [hs]
      exact ar16
    · have hn' : n0 ∈ r := by
        rcases List.mem_cons.mp hn with q | q
        · exact absurd (congrArg Nd.k q.symm) e
        · exact q
      have := ih hn' hnd.2
      rw [List.filter_cons, List.filter_cons]
      cases hs' : S a.k with
      | true =>
        rw [if_neg (by simp [hs']), if_neg (by simp)]
        exact this
      | false =>
        rw [if_pos (by simp [hs', e]), if_pos (by simp)]
        simp only [List.map_cons, List.sum_cons, List.length_cons] at this ⊢
        exact ar17 this
theorem remain_snoc (es : List Se) (e : Se) : remain (es ++ [e]) = remain es + (e.sv.length - e.i) := by unfold remain; simp
end Mine

namespace Mine
noncomputable def fdOf (w : World) (f : Addr) : FuncData := match (Kf w).lookup f with | some ⟨_, _, .func fd, _⟩ => fd | _ => default
noncomputable def bodyOf (w : World) (f : Addr) : List Stmt := match (fdOf w f).body with | .stmts b => b | _ => []
def nthS (l : List Stmt) (i : Nat) : Stmt := l.getD i (.Pass ⟨0, 0, 0, 0⟩)
def inner : Stmt → List Stmt
  | .For _ _ b _ _ => b
  | .While _ b _ _ => b
  | .If _ b _ _ => b
  | .Try b _ _ _ _ => b
  | _ => []
noncomputable def envAt (w : World) (f L : Addr) : Env := envOf (fdOf w f).qualname (fdOf w f).scope L f (fdOf w f).code
noncomputable def fcFor (w : World) : Stmt := nthS (bodyOf w 127) 5
noncomputable def fcWhile (w : World) : Stmt := nthS (inner (fcFor w)) 1
noncomputable def fcInner (w : World) : Stmt := nthS (inner (fcWhile w)) 1

/-- the search's state -/
structure Fc (w : World) (mg mb : Str → Option Value) (g : Heap) (L : Addr) (D : List Addr) (d : Addr) (ns : List Nd) (fr₀ : List (Addr × Obj)) (tail : List (Addr × Obj)) (st is sa da : Addr) (m : Str → Option Value) (es : List Se) (S : Int → Bool) (h : Heap) : Prop where
  ex : ∃ n1 n2 nS so od fr, Cx w mg mb g L D m (seOwn st is sa da n1 n2 so od es tail ++ fr) h ∧ h.SetOf (ik w) sa S nS ∧ h.DictOf (ik w) da (es.map fun e => (e.k, e.v)) ∧ Marked fr₀ fr ∧ nS + unseenN ns S ≤ ns.length
  ok : ∀ e ∈ es, SeOk g e
  ks : ∀ e ∈ es, ∀ p ∈ e.sn, p ∈ ns.map (·.k)
  inc : es.Pairwise fun a b => a.k < b.k
  seen : ∀ e ∈ es, S e.k = true
  its : es.Pairwise fun a b => a.it ≠ b.it
  len : es.length + unseenN ns S ≤ ns.length
  lD : ∀ e ∈ es, e.la ∉ D
  v1 : m "n2i" = some (.ref d)
  v2 : m "stack" = some (.ref st)
  v3 : m "itstack" = some (.ref is)
  v4 : m "seen" = some (.ref sa)
  v5 : m "node2stacki" = some (.ref da)

/-- apartness of the search's objects -/
structure Fa (fr₀ tail : List (Addr × Obj)) (outer : List Env) (st is sa da : Addr) : Prop where
  O : Ofs outer fr₀
  d1 : st ≠ is
  d2 : sa ≠ da
  t1 : ∀ p ∈ tail, p.2.cls = .type "dict_keyiterator"
  fs : ∀ p ∈ tail, p.1 ∉ frs outer
  f1 : st ∉ frs outer
  f2 : is ∉ frs outer
  f3 : sa ∉ frs outer
  f4 : da ∉ frs outer

section
variable {w : World} {mg mb : Str → Option Value} {g : Heap} {L d st is sa da : Addr} {D : List Addr} {ns : List Nd} {fr₀ tail : List (Addr × Obj)} {m : Str → Option Value} {es : List Se} {S : Int → Bool} {s : Shared} {A : Around} {E : Value → Shared → Prop} {outer : List Env}
theorem callWith_mw {pos : Pos} {mw it : Addr} {om : Obj} {env : Env} {Q : Value → Shared → Prop} (hm : s.heap.get? mw = some om) (hmc : om.cls = .type "method-wrapper") (hmd : om.data = .fields #[.builtin "list_iterator.__next__", .ref it])
    (h : wpAny (model pg w) A (call (.ref mw) []) Q E s) : wpAny (model pg w) A (callWith pos (.ref mw) [] (backTo pos (starEach [] env)) []) Q E s := by
  refine callWith_of (P := fun h' => h'.get? mw = some om) rfl (fun h' e => ⟨.machine, .inr (.inl rfl), ?_⟩) (evalArgs_nil3 ⟨hm, h⟩)
  unfold keeperOf
  refine (Looks.ld (part := none) e).andThen ?_
  rw [hmd, hmc]
  exact .now
theorem setOf_mv {h h' : Heap} {a : Addr} {o : Obj} {k : Nat} (hS : h.SetOf (ik w) a S k) (e : h.get? a = some o) (e' : h'.get? a = some o) : h'.SetOf (ik w) a S k := by
  obtain ⟨o2, es, ep, t, ho, r⟩ := hS
  rw [ho] at e; cases e
  exact ⟨_, es, ep, t, e', r⟩
theorem dictOf_mv {h h' : Heap} {a : Addr} {o : Obj} {kvs : List (Int × Value)} (hS : h.DictOf (ik w) a kvs) (e : h.get? a = some o) (e' : h'.get? a = some o) : h'.DictOf (ik w) a kvs := by
  obtain ⟨o2, es, ep, ho, r⟩ := hS
  rw [ho] at e; cases e
  exact ⟨_, es, ep, e', r⟩
theorem Cx.apart' {own : List (Addr × Obj)} {h : Heap} (C : Cx w mg mb g L D m own h) {a : Addr} {o : Obj} {p : Addr × Obj} (h1 : (a, o) ∈ own) (h2 : p ∈ own) (hc : p.2 ≠ o) : p.1 ≠ a := fun e => by
  have e1 := C.get h1
  have e2 := (C.nw p h2).1
  rw [e, e1] at e2
  exact hc (Option.some.inj e2).symm
/-- the last entry's iterator stands apart from all else -/
theorem fc_apart {ys : List Se} {e : Se} {n1 n2 nS : Nat} {so od : Obj} {fr : List (Addr × Obj)} {h : Heap} (C : Cx w mg mb g L D m (seOwn st is sa da n1 n2 so od (ys ++ [e]) tail ++ fr) h) (hS : h.SetOf (ik w) sa S nS) {kvs : List (Int × Value)} (hD : h.DictOf (ik w) da kvs)
    (K : SeOk g e) (hys : ∀ y ∈ ys, SeOk g y) (its : (ys ++ [e]).Pairwise fun a b => a.it ≠ b.it) (ht : ∀ p ∈ tail, p.2.cls = .type "dict_keyiterator") (hf : ∀ p ∈ fr, ∀ vs, p.2.data ≠ .fields vs) :
    st ≠ e.it ∧ is ≠ e.it ∧ sa ≠ e.it ∧ da ≠ e.it ∧ (∀ y ∈ ys, y.mw ≠ e.it ∧ y.it ≠ e.it) ∧ e.mw ≠ e.it ∧ (∀ p ∈ tail, p.1 ≠ e.it) ∧ ∀ p ∈ fr, p.1 ≠ e.it := by
  have em : e ∈ ys ++ [e] := List.mem_append_right _ (.head _)
  have itm : (e.it, e.oi) ∈ seOwn st is sa da n1 n2 so od (ys ++ [e]) tail ++ fr := List.mem_append_left _ (.tail _ (.tail _ (.tail _ (.tail _ (List.mem_append_left _ (List.mem_flatMap.mpr ⟨e, em, .tail _ (.head _)⟩))))))
  have mwm : ∀ y ∈ ys ++ [e], (y.mw, y.om) ∈ seOwn st is sa da n1 n2 so od (ys ++ [e]) tail ++ fr := fun y hy => List.mem_append_left _ (.tail _ (.tail _ (.tail _ (.tail _ (List.mem_append_left _ (List.mem_flatMap.mpr ⟨y, hy, .head _⟩))))))
  refine ⟨C.apart itm (p := (st, _)) (.head _) (by rw [K.ic]; simp), C.apart itm (p := (is, _)) (.tail _ (.head _)) (by rw [K.ic]; simp), ?_, ?_, fun y hy => ⟨?_, ?_⟩, ?_, fun p hp => ?_, fun p hp => ?_⟩
  · refine C.apart itm (p := (sa, so)) (.tail _ (.tail _ (.head _))) ?_
    obtain ⟨o, es, ep, t, ho, ⟨hc, _⟩, _⟩ := hS
    have := C.get (a := sa) (o := so) (.tail _ (.tail _ (.head _)))
    rw [ho] at this; cases this
    rw [show (sa, so).2.cls = _ from hc, K.ic]; simp
  · refine C.apart itm (p := (da, od)) (.tail _ (.tail _ (.tail _ (.head _)))) ?_
    obtain ⟨o, es, ep, ho, ⟨hc, _⟩, _⟩ := hD
    have := C.get (a := da) (o := od) (.tail _ (.tail _ (.tail _ (.head _))))
    rw [ho] at this; cases this
    rw [show (da, od).2.cls = _ from hc, K.ic]; simp
  · exact C.apart itm (mwm y (List.mem_append_left _ hy)) (by rw [(hys y hy).mc, K.ic]; simp)
  · exact (List.pairwise_append.mp its).2.2 y hy e (.head _)
  · exact C.apart itm (mwm e em) (by rw [K.mc, K.ic]; simp)
  · exact C.apart itm (List.mem_append_left _ (.tail _ (.tail _ (.tail _ (.tail _ (List.mem_append_right _ hp)))))) (by rw [ht p hp, K.ic]; simp)
  · refine Cx.apart' C itm (List.mem_append_right _ hp) fun q => ?_
    exact hf p hp _ (q ▸ K.id)
abbrev own4 (st is sa da : Addr) (o1 o2 so od : Obj) (es : List Se) (tail : List (Addr × Obj)) : List (Addr × Obj) := (st, o1) :: (is, o2) :: (sa, so) :: (da, od) :: (es.flatMap Se.objs ++ tail)
/-- the four owned objects stand apart from all else -/
structure Four (o1 o2 so od : Obj) : Prop where
  c1 : o1.cls = .type "list"
  c2 : o2.cls = .type "list"
  c3 : so.cls = .type "set"
  c4 : od.cls = .type "dict"
theorem own4_ne {o1 o2 so od : Obj} {fr : List (Addr × Obj)} {h : Heap} (C : Cx w mg mb g L D m (own4 st is sa da o1 o2 so od es tail ++ fr) h) (F4 : Four o1 o2 so od) (ok : ∀ e ∈ es, SeOk g e) (FA : Fa fr₀ tail outer st is sa da) (MK : Marked fr₀ fr) {a : Addr} {o : Obj} (hm : (a, o) ∈ own4 st is sa da o1 o2 so od es tail ++ fr)
    (hc : o.cls = .type "list" ∨ o.cls = .type "set" ∨ o.cls = .type "dict") (ha : a ∉ frs outer) : ∀ p ∈ es.flatMap Se.objs ++ tail ++ fr, p.1 ≠ a := by
  intro p hp
  rw [List.append_assoc] at hp
  rcases List.mem_append.mp hp with hp | hp
  · have hpo : p ∈ own4 st is sa da o1 o2 so od es tail ++ fr := List.mem_append_left _ (.tail _ (.tail _ (.tail _ (.tail _ (List.mem_append_left _ hp)))))
    obtain ⟨y, hy, hp⟩ := List.mem_flatMap.mp hp
    simp only [List.mem_cons, List.not_mem_nil, or_false] at hp
    rcases hp with rfl | rfl
    · refine C.apart hm hpo ?_
      rw [(ok y hy).mc]; rcases hc with hc | hc | hc <;> rw [hc] <;> simp
    · refine C.apart hm hpo ?_
      rw [(ok y hy).ic]; rcases hc with hc | hc | hc <;> rw [hc] <;> simp
  · rcases List.mem_append.mp hp with hp | hp
    · refine C.apart hm (List.mem_append_left _ (.tail _ (.tail _ (.tail _ (.tail _ (List.mem_append_right _ hp)))))) ?_
      rw [FA.t1 p hp]; rcases hc with hc | hc | hc <;> rw [hc] <;> simp
    · exact fun q => ha (q ▸ (FA.O.marked MK).sub p hp)
theorem upd_st {o1 o2 so od o1' : Obj} {fr : List (Addr × Obj)} {h h' : Heap} (C : Cx w mg mb g L D m (own4 st is sa da o1 o2 so od es tail ++ fr) h) (F4 : Four o1 o2 so od) (ok : ∀ e ∈ es, SeOk g e) (FA : Fa fr₀ tail outer st is sa da) (MK : Marked fr₀ fr) (sb : Heap.SameBut st h h') (ho : h'.get? st = some o1') :
    Cx w mg mb g L D m (own4 st is sa da o1' o2 so od es tail ++ fr) h' := by
  have hm : (st, o1) ∈ own4 st is sa da o1 o2 so od es tail ++ fr := .head _
  refine C.chg hm sb ho fun p hp => ?_
  rcases List.mem_cons.mp hp with rfl | hp
  · exact .inl rfl
  refine .inr ⟨?_, .tail _ hp⟩
  rcases List.mem_cons.mp hp with rfl | hp
  · exact FA.d1.symm
  rcases List.mem_cons.mp hp with rfl | hp
  · exact C.apart hm (p := (sa, so)) (.tail _ (.tail _ (.head _))) (by rw [F4.c1, show (sa, so).2.cls = _ from F4.c3]; simp)
  rcases List.mem_cons.mp hp with rfl | hp
  · exact C.apart hm (p := (da, od)) (.tail _ (.tail _ (.tail _ (.head _)))) (by rw [F4.c1, show (da, od).2.cls = _ from F4.c4]; simp)
  exact own4_ne C F4 ok FA MK hm (.inl F4.c1) FA.f1 p hp
theorem upd_is {o1 o2 so od o1' : Obj} {fr : List (Addr × Obj)} {h h' : Heap} (C : Cx w mg mb g L D m (own4 st is sa da o1 o2 so od es tail ++ fr) h) (F4 : Four o1 o2 so od) (ok : ∀ e ∈ es, SeOk g e) (FA : Fa fr₀ tail outer st is sa da) (MK : Marked fr₀ fr) (sb : Heap.SameBut is h h') (ho : h'.get? is = some o1') :
    Cx w mg mb g L D m (own4 st is sa da o1 o1' so od es tail ++ fr) h' := by
  have hm : (is, o2) ∈ own4 st is sa da o1 o2 so od es tail ++ fr := .tail _ (.head _)
  refine C.chg hm sb ho fun p hp => ?_
  rcases List.mem_cons.mp hp with rfl | hp
  · exact .inr ⟨FA.d1, .head _⟩
  rcases List.mem_cons.mp hp with rfl | hp
  · exact .inl rfl
  refine .inr ⟨?_, .tail _ (.tail _ hp)⟩
  rcases List.mem_cons.mp hp with rfl | hp
  · exact C.apart hm (p := (sa, so)) (.tail _ (.tail _ (.head _))) (by rw [F4.c2, show (sa, so).2.cls = _ from F4.c3]; simp)
  rcases List.mem_cons.mp hp with rfl | hp
  · exact C.apart hm (p := (da, od)) (.tail _ (.tail _ (.tail _ (.head _)))) (by rw [F4.c2, show (da, od).2.cls = _ from F4.c4]; simp)
  exact own4_ne C F4 ok FA MK hm (.inl F4.c2) FA.f2 p hp
theorem upd_sa {o1 o2 so od o1' : Obj} {fr : List (Addr × Obj)} {h h' : Heap} (C : Cx w mg mb g L D m (own4 st is sa da o1 o2 so od es tail ++ fr) h) (F4 : Four o1 o2 so od) (ok : ∀ e ∈ es, SeOk g e) (FA : Fa fr₀ tail outer st is sa da) (MK : Marked fr₀ fr) (sb : Heap.SameBut sa h h') (ho : h'.get? sa = some o1') :
    Cx w mg mb g L D m (own4 st is sa da o1 o2 o1' od es tail ++ fr) h' := by
  have hm : (sa, so) ∈ own4 st is sa da o1 o2 so od es tail ++ fr := .tail _ (.tail _ (.head _))
  refine C.chg hm sb ho fun p hp => ?_
  rcases List.mem_cons.mp hp with rfl | hp
  · exact .inr ⟨C.apart hm (p := (st, o1)) (.head _) (by rw [F4.c3, show (st, o1).2.cls = _ from F4.c1]; simp), .head _⟩
  rcases List.mem_cons.mp hp with rfl | hp
  · exact .inr ⟨C.apart hm (p := (is, o2)) (.tail _ (.head _)) (by rw [F4.c3, show (is, o2).2.cls = _ from F4.c2]; simp), .tail _ (.head _)⟩
  rcases List.mem_cons.mp hp with rfl | hp
  · exact .inl rfl
  refine .inr ⟨?_, .tail _ (.tail _ (.tail _ hp))⟩
  rcases List.mem_cons.mp hp with rfl | hp
  · exact FA.d2.symm
  exact own4_ne C F4 ok FA MK hm (.inr (.inl F4.c3)) FA.f3 p hp
theorem upd_da {o1 o2 so od o1' : Obj} {fr : List (Addr × Obj)} {h h' : Heap} (C : Cx w mg mb g L D m (own4 st is sa da o1 o2 so od es tail ++ fr) h) (F4 : Four o1 o2 so od) (ok : ∀ e ∈ es, SeOk g e) (FA : Fa fr₀ tail outer st is sa da) (MK : Marked fr₀ fr) (sb : Heap.SameBut da h h') (ho : h'.get? da = some o1') :
    Cx w mg mb g L D m (own4 st is sa da o1 o2 so o1' es tail ++ fr) h' := by
  have hm : (da, od) ∈ own4 st is sa da o1 o2 so od es tail ++ fr := .tail _ (.tail _ (.tail _ (.head _)))
  refine C.chg hm sb ho fun p hp => ?_
  rcases List.mem_cons.mp hp with rfl | hp
  · exact .inr ⟨C.apart hm (p := (st, o1)) (.head _) (by rw [F4.c4, show (st, o1).2.cls = _ from F4.c1]; simp), .head _⟩
  rcases List.mem_cons.mp hp with rfl | hp
  · exact .inr ⟨C.apart hm (p := (is, o2)) (.tail _ (.head _)) (by rw [F4.c4, show (is, o2).2.cls = _ from F4.c2]; simp), .tail _ (.head _)⟩
  rcases List.mem_cons.mp hp with rfl | hp
  · exact .inr ⟨FA.d2, .tail _ (.tail _ (.head _))⟩
  rcases List.mem_cons.mp hp with rfl | hp
  · exact .inl rfl
  exact .inr ⟨own4_ne C F4 ok FA MK hm (.inr (.inr F4.c4)) FA.f4 p hp, .tail _ (.tail _ (.tail _ (.tail _ hp)))⟩
theorem setOf_cls {h : Heap} {a : Addr} {o : Obj} {k : Nat} (hS : h.SetOf (ik w) a S k) (e : h.get? a = some o) : o.cls = .type "set" := by
  obtain ⟨o2, es, ep, t, ho, ⟨hc, _⟩, _⟩ := hS
  rw [ho] at e; cases e; exact hc
theorem dictOf_cls {h : Heap} {a : Addr} {o : Obj} {kvs : List (Int × Value)} (hD : h.DictOf (ik w) a kvs) (e : h.get? a = some o) : o.cls = .type "dict" := by
  obtain ⟨o2, es, ep, ho, ⟨hc, _⟩, _⟩ := hD
  rw [ho] at e; cases e; exact hc
theorem fc_inner {Q : Flow → Shared → Prop} (F : Fc w mg mb g L D d ns fr₀ tail st is sa da m es S s.heap) (FA : Fa fr₀ tail outer st is sa da) (hh : A.handled = none) (hA : A.frames = some (envAt w 127 L :: outer)) (hlow : 181 ≤ da) (hnl : ns.length ≤ 80)
    (hend : ∀ h' m' tk, Fc w mg mb g L D d ns fr₀ tail st is sa da m' [] S h' → Q .brk { s with heap := h', toks := tk })
    (hitem : ∀ h' m' tk es' p tp, Fc w mg mb g L D d ns fr₀ tail st is sa da m' es' S h' → m' "node" = some (.int p tp) → (∀ e ∈ es', e.k < p) → p ∈ ns.map (·.k) → remain es' + 1 ≤ remain es → Q .next { s with heap := h', toks := tk }) :
    wpAny (model pg w) A (exec (fcInner w) (envAt w 127 L)) Q E s := by
  show wpAny _ _ (exec (Stmt.While _ _ _ _) (envOf _ _ _ _ _)) _ _ _
  refine wpAny_While (whileL (fun j s' => ∃ h' tk m' es', s' = { s with heap := h', toks := tk } ∧ j = es'.length ∧ Fc w mg mb g L D d ns fr₀ tail st is sa da m' es' S h' ∧ remain es' ≤ remain es) ?_ es.length ⟨s.heap, s.toks, m, es, rfl, rfl, F, Nat.le_refl _⟩)
  rintro j s' J Fo E₁ ⟨h', tk, m', es', rfl, rfl, F', hrem⟩ hJ hF hB hV
  obtain ⟨⟨n1, n2, nS, so, od, fr, C, hS, hD, MK, hcnt⟩, ok, ks, inc, seen, its, len, lD, v1, v2, v3, v4, v5⟩ := F'
  have stm : (st, listOf (es'.map fun e => Value.int e.k e.t).toArray n1) ∈ seOwn st is sa da n1 n2 so od es' tail ++ fr := .head _
  have ism : (is, listOf (es'.map fun e => Value.ref e.mw).toArray n2) ∈ seOwn st is sa da n1 n2 so od es' tail ++ fr := .tail _ (.head _)
  refine wpAny_isTrue_value (n_loc C v2 (wpAny_truthy_list (isList_of (C.get stm)) ?_ ?_))
  · rw [List.size_toArray, List.length_map]; exact ar7 hnl len
  · rcases List.eq_nil_or_concat es' with rfl | ⟨ys, e, rfl⟩
    · refine wpAny_execs_cons (wpAny_Break ?_)
      exact hF _ _ (hend h' m' _ ⟨⟨n1, n2, nS, so, od, fr, C, hS, hD, MK, hcnt⟩, ok, ks, inc, seen, its, len, lD, v1, v2, v3, v4, v5⟩)
    · have hne : (!(List.map (fun e => Value.int e.k e.t) (ys ++ [e])).toArray.isEmpty) = true := by simp
      rw [List.concat_eq_append] at *
      rw [hne]
      have em : e ∈ ys ++ [e] := List.mem_append_right _ (.head _)
      have mwm : (e.mw, e.om) ∈ seOwn st is sa da n1 n2 so od (ys ++ [e]) tail ++ fr := List.mem_append_left _ (.tail _ (.tail _ (.tail _ (.tail _ (List.mem_append_left _ (List.mem_flatMap.mpr ⟨e, em, .head _⟩))))))
      have itm : (e.it, e.oi) ∈ seOwn st is sa da n1 n2 so od (ys ++ [e]) tail ++ fr := List.mem_append_left _ (.tail _ (.tail _ (.tail _ (.tail _ (List.mem_append_left _ (List.mem_flatMap.mpr ⟨e, em, .tail _ (.head _)⟩))))))
      have K := ok e em
      refine wpAny_execs_cons (wpAny_Try_except (wpAny_execs_cons (wpAny_Assign_Name (Call_ (Subscript_ (n_loc C v3 (wpAny_UnaryOp (wpAny_Constant_int (PySem.P.neg_int ?_)))))))))
      have hgi : (List.map (fun e => Value.ref e.mw) (ys ++ [e])).toArray[((-1 : Int) + ((List.map (fun e => Value.ref e.mw) (ys ++ [e])).toArray.size : Nat)).toNat]? = some (.ref e.mw) := by
        have : ((-1 : Int) + ((List.map (fun e => Value.ref e.mw) (ys ++ [e])).toArray.size : Nat)).toNat = ys.length := by
          rw [List.size_toArray, List.length_map, List.length_append, List.length_singleton]; exact ar8
        rw [this]; simp
      refine tail_any (isList_of (C.get ism)).typeIs slot_list_getitem.lookup (wpAny_getItem_list_neg (isList_of (C.get ism)) (by decide) (by rw [List.size_toArray, List.length_map, List.length_append, List.length_singleton]; exact ar9) (by decide) hgi ?_) (by rfl)
      refine callWith_mw (C.get mwm) K.mc K.md ?_
      have ap := fc_apart C hS hD K (fun y hy => ok y (List.mem_append_left _ hy)) its FA.t1 (FA.O.marked MK).data
      have hls : h'.IsList e.la e.sv.toArray := isList_of (C.keep K.ls ?_)
      · cases hv : e.sv[e.i]? with
        | some v =>
          refine call_mw_item (C.get mwm) K.mc K.md (C.get itm) K.ic K.id hls (by simpa using hv) fun h2 oi2 sb ho2 hc2 hd2 => ?_
          let e2 : Se := { e with oi := oi2, i := e.i + 1 }
          have K2 : SeOk g e2 := ⟨K.mc, K.md, hc2, hd2, K.ls, K.iv, K.up, (List.getElem?_eq_some_iff.mp hv).1⟩
          have hmap : ∀ {β : Type} (f : Se → β), f e2 = f e → (ys ++ [e2]).map f = (ys ++ [e]).map f := fun f hf => by simp [hf]
          have C2 : Cx w mg mb g L D m' (seOwn st is sa da n1 n2 so od (ys ++ [e2]) tail ++ fr) h2 := by
            refine C.chg itm sb ho2 fun p hp => ?_
            unfold seOwn at hp
            rw [hmap (fun e => Value.int e.k e.t) rfl, hmap (fun e => Value.ref e.mw) rfl] at hp
            rcases List.mem_append.mp hp with hp | hp
            · rcases List.mem_cons.mp hp with rfl | hp
              · exact .inr ⟨ap.1, .head _⟩
              rcases List.mem_cons.mp hp with rfl | hp
              · exact .inr ⟨ap.2.1, .tail _ (.head _)⟩
              rcases List.mem_cons.mp hp with rfl | hp
              · exact .inr ⟨ap.2.2.1, .tail _ (.tail _ (.head _))⟩
              rcases List.mem_cons.mp hp with rfl | hp
              · exact .inr ⟨ap.2.2.2.1, .tail _ (.tail _ (.tail _ (.head _)))⟩
              rcases List.mem_append.mp hp with hp | hp
              · obtain ⟨y, hy, hp⟩ := List.mem_flatMap.mp hp
                rcases List.mem_append.mp hy with hy | hy
                · have hin : p ∈ seOwn st is sa da n1 n2 so od (ys ++ [e]) tail ++ fr := List.mem_append_left _ (.tail _ (.tail _ (.tail _ (.tail _ (List.mem_append_left _ (List.mem_flatMap.mpr ⟨y, List.mem_append_left _ hy, hp⟩))))))
                  simp only [List.mem_cons, List.not_mem_nil, or_false] at hp
                  rcases hp with rfl | rfl
                  · exact .inr ⟨(ap.2.2.2.2.1 y hy).1, hin⟩
                  · exact .inr ⟨(ap.2.2.2.2.1 y hy).2, hin⟩
                · rcases List.mem_singleton.mp hy with rfl
                  simp only [List.mem_cons, List.not_mem_nil, or_false] at hp
                  rcases hp with rfl | rfl
                  · exact .inr ⟨ap.2.2.2.2.2.1, mwm⟩
                  · exact .inl rfl
              · exact .inr ⟨ap.2.2.2.2.2.2.1 p hp, List.mem_append_left _ (.tail _ (.tail _ (.tail _ (.tail _ (List.mem_append_right _ hp)))))⟩
            · exact .inr ⟨ap.2.2.2.2.2.2.2 p hp, List.mem_append_right _ hp⟩
          obtain ⟨p, tp, hp, rfl⟩ := ia_get K.iv hv
          refine s_loc C2 fun h3 C3 => ?_
          refine wpAny_execs_cons (wpAny_Break ?_)
          refine hB _ (hitem h3 _ _ (ys ++ [e2]) p tp ⟨⟨n1, n2, nS, so, od, fr, C3, ?_, ?_, MK, hcnt⟩, ?_, ?_, ?_, ?_, ?_, ?_, ?_, v1, v2, v3, v4, v5⟩ rfl ?_ ?_ ?_)
          · exact setOf_mv hS (C.get (.tail _ (.tail _ (.head _)))) (C3.get (.tail _ (.tail _ (.head _))))
          · rw [hmap (fun e => (e.k, e.v)) rfl]; exact dictOf_mv hD (C.get (.tail _ (.tail _ (.tail _ (.head _))))) (C3.get (.tail _ (.tail _ (.tail _ (.head _)))))
          · intro z hz
            rcases List.mem_append.mp hz with hz | hz
            · exact ok z (List.mem_append_left _ hz)
            · rcases List.mem_singleton.mp hz with rfl; exact K2
          · intro z hz
            rcases List.mem_append.mp hz with hz | hz
            · exact ks z (List.mem_append_left _ hz)
            · rcases List.mem_singleton.mp hz with rfl; exact ks e em
          · obtain ⟨q1, q2, q3⟩ := List.pairwise_append.mp inc
            exact List.pairwise_append.mpr ⟨q1, List.pairwise_singleton _ _, fun a ha b hb => by rcases List.mem_singleton.mp hb with rfl; exact q3 a ha e (.head _)⟩
          · intro z hz
            rcases List.mem_append.mp hz with hz | hz
            · exact seen z (List.mem_append_left _ hz)
            · rcases List.mem_singleton.mp hz with rfl; exact seen e em
          · obtain ⟨q1, q2, q3⟩ := List.pairwise_append.mp its
            exact List.pairwise_append.mpr ⟨q1, List.pairwise_singleton _ _, fun a ha b hb => by rcases List.mem_singleton.mp hb with rfl; exact q3 a ha e (.head _)⟩
          · rw [List.length_append, List.length_singleton] at len ⊢; exact len
          · intro z hz
            rcases List.mem_append.mp hz with hz | hz
            · exact lD z (List.mem_append_left _ hz)
            · rcases List.mem_singleton.mp hz with rfl; exact lD e em
          · have hep : e.k < p := K.up p (List.mem_of_getElem? hp)
            intro z hz
            rcases List.mem_append.mp hz with hz | hz
            · have := (List.pairwise_append.mp inc).2.2 z hz e (.head _)
              exact Int.lt_trans this hep
            · rcases List.mem_singleton.mp hz with rfl; exact hep
          · exact ks e em p (List.mem_of_getElem? hp)
          · have hi := (List.getElem?_eq_some_iff.mp hv).1
            rw [remain_snoc] at hrem ⊢
            show remain ys + (e.sv.length - (e.i + 1)) + 1 ≤ _
            exact ar10 hrem hi
        | none =>
          refine call_mw_end hh (C.get mwm) K.mc K.md (C.get itm) K.ic K.id hls (by simpa using hv) fun h2 ee oe vs ext hge hoe hce hde hv1 => ?_
          have C1 : Cx w mg mb g L D m' (((st, listOf ((ys ++ [e]).map fun e => Value.int e.k e.t).toArray n1) :: (is, listOf ((ys ++ [e]).map fun e => Value.ref e.mw).toArray n2) :: (sa, so) :: (da, od) :: (ys.flatMap Se.objs ++ tail)) ++ fr) h2 := by
            refine C.call (D' := [e.it]) (fun b o eb q => ext b o (by simpa using q) eb) (fun b hb => by rcases List.mem_singleton.mp hb with rfl; exact ⟨_, itm⟩) fun p hp => .inl ?_
            rcases List.mem_append.mp hp with hp | hp
            · rcases List.mem_cons.mp hp with rfl | hp
              · exact ⟨.head _, by simpa using ap.1⟩
              rcases List.mem_cons.mp hp with rfl | hp
              · exact ⟨.tail _ (.head _), by simpa using ap.2.1⟩
              rcases List.mem_cons.mp hp with rfl | hp
              · exact ⟨.tail _ (.tail _ (.head _)), by simpa using ap.2.2.1⟩
              rcases List.mem_cons.mp hp with rfl | hp
              · exact ⟨.tail _ (.tail _ (.tail _ (.head _))), by simpa using ap.2.2.2.1⟩
              rcases List.mem_append.mp hp with hp | hp
              · obtain ⟨y, hy, hp⟩ := List.mem_flatMap.mp hp
                refine ⟨List.mem_append_left _ (.tail _ (.tail _ (.tail _ (.tail _ (List.mem_append_left _ (List.mem_flatMap.mpr ⟨y, List.mem_append_left _ hy, hp⟩)))))), ?_⟩
                simp only [List.mem_cons, List.not_mem_nil, or_false] at hp
                rcases hp with rfl | rfl
                · simpa using (ap.2.2.2.2.1 y hy).1
                · simpa using (ap.2.2.2.2.1 y hy).2
              · exact ⟨List.mem_append_left _ (.tail _ (.tail _ (.tail _ (.tail _ (List.mem_append_right _ hp))))), by simpa using ap.2.2.2.2.2.2.1 p hp⟩
            · exact ⟨List.mem_append_right _ hp, by simpa using ap.2.2.2.2.2.2.2 p hp⟩
          have hlt : ∀ p ∈ ((st, listOf ((ys ++ [e]).map fun e => Value.int e.k e.t).toArray n1) :: (is, listOf ((ys ++ [e]).map fun e => Value.ref e.mw).toArray n2) :: (sa, so) :: (da, od) :: (ys.flatMap Se.objs ++ tail)) ++ fr, p ∈ seOwn st is sa da n1 n2 so od (ys ++ [e]) tail ++ fr := fun p hp => by
            rcases List.mem_append.mp hp with hp | hp
            · rcases List.mem_cons.mp hp with rfl | hp
              · exact .head _
              rcases List.mem_cons.mp hp with rfl | hp
              · exact .tail _ (.head _)
              rcases List.mem_cons.mp hp with rfl | hp
              · exact .tail _ (.tail _ (.head _))
              rcases List.mem_cons.mp hp with rfl | hp
              · exact .tail _ (.tail _ (.tail _ (.head _)))
              rcases List.mem_append.mp hp with hp | hp
              · obtain ⟨y, hy, hp⟩ := List.mem_flatMap.mp hp
                exact List.mem_append_left _ (.tail _ (.tail _ (.tail _ (.tail _ (List.mem_append_left _ (List.mem_flatMap.mpr ⟨y, List.mem_append_left _ hy, hp⟩))))))
              · exact List.mem_append_left _ (.tail _ (.tail _ (.tail _ (.tail _ (List.mem_append_right _ hp)))))
            · exact List.mem_append_right _ hp
          have hen : (hideAll g D).get? ee = none := by
            cases q : (hideAll g D).get? ee with
            | none => rfl
            | some o => exact absurd (Heap.lt_size (C.fr.keep ee o q)) (Nat.not_lt.mpr hge)
          have heL : ee ≠ L := fun q => by
            obtain ⟨oL, _, _, hoL, _⟩ := C.ns
            have := Heap.lt_size hoL
            rw [q] at hge
            exact absurd this (Nat.not_lt.mpr hge)
          have hfo : ∀ y ∈ ys, ∀ p ∈ y.objs, p.1 ∉ frs outer := fun y hy p hp z => by
            obtain ⟨f, hf, hf1⟩ := (FA.O.marked MK).frs z
            have Ky := ok y (List.mem_append_left _ hy)
            have hpo : p ∈ seOwn st is sa da n1 n2 so od (ys ++ [e]) tail ++ fr := List.mem_append_left _ (.tail _ (.tail _ (.tail _ (.tail _ (List.mem_append_left _ (List.mem_flatMap.mpr ⟨y, List.mem_append_left _ hy, hp⟩))))))
            have e1 := C.get (List.mem_append_right _ hf : (f.1, f.2) ∈ _)
            have e2 := (C.nw p hpo).1
            rw [hf1, e2] at e1
            have dt := (FA.O.marked MK).data f hf
            rw [← Option.some.inj e1] at dt
            simp only [List.mem_cons, List.not_mem_nil, or_false] at hp
            rcases hp with rfl | rfl
            · exact dt _ Ky.md
            · exact dt _ Ky.id
          refine caught_cx (s := { s with heap := h2, toks := _ }) C1 (FA.O.marked MK) ?_ hA rfl rfl hoe hce hde hv1 hen heL ?_ (T := "StopIteration") (by rw [isSubtype_type]; kernel_rfl) (by rw [isSubtype_type]; kernel_rfl) isSubtype_stop (by with_unfolding_all rfl) (by decide +kernel) (by decide) rfl rfl (by rfl) (by rfl) fun h3 fr3 E'' M3 C3 => ?_
          · intro p hp
            rcases List.mem_cons.mp hp with rfl | hp
            · exact FA.f1
            rcases List.mem_cons.mp hp with rfl | hp
            · exact FA.f2
            rcases List.mem_cons.mp hp with rfl | hp
            · exact FA.f3
            rcases List.mem_cons.mp hp with rfl | hp
            · exact FA.f4
            rcases List.mem_append.mp hp with hp | hp
            · obtain ⟨y, hy, hp⟩ := List.mem_flatMap.mp hp
              exact hfo y hy p hp
            · exact FA.fs p hp
          · intro p hp q
            have := C.lt (hlt p hp : (p.1, p.2) ∈ _)
            rw [q] at this
            exact absurd this (Nat.not_lt.mpr hge)
          have F4 : Four (listOf ((ys ++ [e]).map fun e => Value.int e.k e.t).toArray n1) (listOf ((ys ++ [e]).map fun e => Value.ref e.mw).toArray n2) so od := ⟨rfl, rfl, setOf_cls hS (C.get (.tail _ (.tail _ (.head _)))), dictOf_cls hD (C.get (.tail _ (.tail _ (.tail _ (.head _)))))⟩
          have oky : ∀ y ∈ ys, SeOk g y := fun y hy => ok y (List.mem_append_left _ hy)
          have MK3 := MK.trans M3
          have hyl : ys.length ≤ 1000 := by rw [List.length_append] at len; exact ar11 hnl len
          refine wpAny_execs_cons (wpAny_Delete (wpAny_deleteEach_cons (wpAny_delete_Subscript (n_loc C3 v5 (MethodCall_ (n_loc C3 v2 ?_))))))
          refine getMethod_list_of PySem.F.slot_list_pop PySem.F.type_list_pop (isList_of (C3.get (.head _))) ⟨_, C3.get (.head _), rfl⟩ ?_
          refine callWith_method0 ?_
          have hst3 := C3.get (.head _)
          rw [List.map_append] at hst3
          refine pop_list hst3 (by rw [List.length_map]; exact hyl) fun h4 n1' sb4 ho4 => ?_
          have C4 := upd_st C3 F4 oky FA MK3 sb4 ho4
          have hD4 : h4.DictOf (ik w) da ((ys ++ [e]).map fun e => (e.k, e.v)) := dictOf_mv hD (C.get (.tail _ (.tail _ (.tail _ (.head _))))) (C4.get (.tail _ (.tail _ (.tail _ (.head _)))))
          have incl : ∀ y ∈ ys, y.k < e.k := fun y hy => (List.pairwise_append.mp inc).2.2 y hy e (.head _)
          have hwo : without ((ys ++ [e]).map fun e => (e.k, e.v)) e.k = ys.map fun e => (e.k, e.v) := by
            unfold without
            rw [List.map_append, List.filter_append, List.filter_eq_self.mpr]
            · simp
            · intro a ha
              obtain ⟨y, hy, rfl⟩ := List.mem_map.mp ha
              have := incl y hy
              simp; exact ar12 this
          have hva : (valueAt ((ys ++ [e]).map fun e => (e.k, e.v)) e.k).isSome = true := by
            unfold valueAt
            rw [Option.isSome_map, List.find?_isSome]
            exact ⟨(e.k, e.v), List.mem_map.mpr ⟨e, em, rfl⟩, by simp⟩
          refine del_dict hD4 (by rw [List.length_map, List.length_append, List.length_singleton]; rw [List.length_append, List.length_singleton] at len; exact ar13 hnl len) hva fun h5 hD5 sb5 => ?_
          rw [hwo] at hD5
          refine wpAny_deleteEach_nil ?_
          obtain ⟨od5, _, _, hod5, _⟩ := id hD5
          have C5 := upd_da C4 ⟨rfl, rfl, F4.c3, F4.c4⟩ oky FA MK3 sb5 hod5
          refine wpAny_execs_cons (wpAny_Expr_any (MethodCall_ (n_loc C5 v3 ?_)) (by rfl) (by rfl))
          refine getMethod_list_of PySem.F.slot_list_pop PySem.F.type_list_pop (isList_of (C5.get (.tail _ (.head _)))) ⟨_, C5.get (.tail _ (.head _)), rfl⟩ ?_
          refine callWith_method0 ?_
          have his5 := C5.get (.tail _ (.head _))
          rw [List.map_append] at his5
          refine pop_list his5 (by rw [List.length_map]; exact hyl) fun h6 n2' sb6 ho6 => ?_
          have C6 := upd_is C5 ⟨rfl, rfl, F4.c3, dictOf_cls hD5 hod5⟩ oky FA MK3 sb6 ho6
          refine wpAny_execs_nil ?_
          have hi : e.sv.length ≤ e.i := by simpa using hv
          rw [remain_snoc] at hrem
          refine wpAny_execs_nil ?_
          refine (hJ ys.length _ (by simp) ⟨h6, _, m', ys, rfl, rfl, ⟨⟨n1', n2', nS, so, od5, fr3, C6, ?_, ?_, MK3, hcnt⟩, oky, ?_, ?_, ?_, ?_, ?_, ?_, v1, v2, v3, v4, v5⟩, by exact ar14 hrem⟩).1
          · exact setOf_mv hS (C.get (.tail _ (.tail _ (.head _)))) (C6.get (.tail _ (.tail _ (.head _))))
          · exact dictOf_mv hD5 hod5 (C6.get (.tail _ (.tail _ (.tail _ (.head _)))))
          · exact fun y hy => ks y (List.mem_append_left _ hy)
          · exact (List.pairwise_append.mp inc).1
          · exact fun y hy => seen y (List.mem_append_left _ hy)
          · exact (List.pairwise_append.mp its).1
          · rw [List.length_append] at len; exact ar15 len
          · exact fun y hy => lD y (List.mem_append_left _ hy)
      · exact lD e em
end
end Mine

namespace Mine
section
variable {w : World} {mg mb : Str → Option Value} {g : Heap} {L d st is sa da : Addr} {D : List Addr} {ns : List Nd} {fr₀ tail : List (Addr × Obj)} {m : Str → Option Value} {es : List Se} {S : Int → Bool} {s : Shared} {A : Around} {E : Value → Shared → Prop} {outer : List Env}
/-- the `while True` of the search -/
theorem fc_while {Q : Flow → Shared → Prop} {k : Int} {t : Tok} (N : Nds w g d ns) (hnd : ∀ b ∈ fp d ns [], b ∉ D) (hup : ∀ n ∈ ns, ∀ p ∈ n.sn, n.k < p ∧ p ∈ ns.map (·.k)) (F : Fc w mg mb g L D d ns fr₀ tail st is sa da m [] S s.heap) (hk : m "node" = some (.int k t)) (hkn : k ∈ ns.map (·.k))
    (FA : Fa fr₀ tail outer st is sa da) (hh : A.handled = none) (hA : A.frames = some (envAt w 127 L :: outer)) (hlow : 181 ≤ da) (hnl : ns.length ≤ 80)
    (hend : ∀ h' m' S' tk, Fc w mg mb g L D d ns fr₀ tail st is sa da m' [] S' h' → Q .next { s with heap := h', toks := tk }) :
    wpAny (model pg w) A (exec (fcWhile w) (envAt w 127 L)) Q E s := by
  show wpAny _ _ (exec (Stmt.While _ _ _ _) (envOf _ _ _ _ _)) _ _ _
  refine wpAny_While (whileL (fun j s' => ∃ h' tk m' es' S' k t, s' = { s with heap := h', toks := tk } ∧ j = unseen ns S' + remain es' ∧ Fc w mg mb g L D d ns fr₀ tail st is sa da m' es' S' h' ∧ m' "node" = some (.int k t) ∧ k ∈ ns.map (·.k) ∧ ∀ e ∈ es', e.k < k) ?_ _ ⟨s.heap, s.toks, m, [], S, k, t, rfl, rfl, F, hk, hkn, by simp⟩)
  clear hk hkn F k t
  rintro j s' J Fo E₁ ⟨h', tk, m', es', S', k, t, rfl, rfl, F', hk, hkn, hlt⟩ hJ hF hB hV
  have F0 := F'
  obtain ⟨⟨n1, n2, nS, so, od, fr, C, hS, hD, MK, hcnt⟩, ok, ks, inc, seen, its, len, lD, v1, v2, v3, v4, v5⟩ := F'
  refine wpAny_isTrue_value (wpAny_Constant_bool (wpAny_truthy_bool ?_))
  refine wpAny_execs_cons (wpAny_If (wpAny_isTrue_Compare1 (n_loc C hk (n_loc C v4 (wpAny_inSet_of (is_int k t) rfl hS (wpAny_truthy_bool ?_))))))
  obtain ⟨n0, hn0, rfl⟩ := List.mem_map.mp hkn
  cases hs : S' n0.k with
  | true =>
    refine wpAny_execs_cons (wpAny_If (wpAny_isTrue_Compare1 (n_loc C hk (n_loc C v5 (wpAny_in_of (is_int n0.k t) (low_sys hlow) hD.mapOf (wpAny_truthy_bool ?_))))))
    have hno : (valueAt (es'.map fun e => (e.k, e.v)) n0.k).isSome = false := by
      unfold valueAt
      rw [Option.isSome_map]
      cases q : (List.find? (fun kv => decide (kv.1 = n0.k)) (es'.map fun e => (e.k, e.v))) with
      | none => rfl
      | some kv =>
        have h1 := List.find?_some q
        obtain ⟨e, he, rfl⟩ := List.mem_map.mp (List.mem_of_find?_eq_some q)
        have := hlt e he
        simp at h1; omega
    rw [hno]
    refine wpAny_execs_nil (wpAny_execs_nil (wpAny_execs_cons ?_))
    show wpAny _ _ (exec (fcInner w) (envAt w 127 L)) _ _ _
    refine fc_inner F0 FA hh hA hlow hnl (fun h2 m2 tk2 F2 => ?_) fun h2 m2 tk2 es2 p tp F2 hp hlt2 hpn hrem => ?_
    · exact hB _ (hend h2 m2 _ _ F2)
    · refine wpAny_execs_nil ?_
      exact (hJ _ _ (by exact ar121 hrem) ⟨h2, tk2, m2, es2, _, p, tp, rfl, rfl, F2, hp, hpn, hlt2⟩).1
  | false =>
    have F4 : Four (listOf (es'.map fun e => Value.int e.k e.t).toArray n1) (listOf (es'.map fun e => Value.ref e.mw).toArray n2) so od := ⟨rfl, rfl, setOf_cls hS (C.get (.tail _ (.tail _ (.head _)))), dictOf_cls hD (C.get (.tail _ (.tail _ (.tail _ (.head _)))))⟩
    refine wpAny_execs_cons (wpAny_Expr_any (MethodCall_ (n_loc C v4 (getMethod_set_add hS ?_))) (by rfl) (by rfl))
    refine callWith_method1 (wpAny_items_cons (n_loc C hk (wpAny_items_nil ?_)))
    refine call_set_add (is_int n0.k t) rfl hS ?_ fun h2 sb2 hS2 => ?_
    · show nS + 1 < 4096; exact ar122 hnl hcnt
    rw [hs] at hS2
    obtain ⟨so2, _, _, _, hso2, _⟩ := id hS2
    have C2 := upd_sa C F4 ok FA MK sb2 hso2
    refine wpAny_execs_cons (wpAny_Expr_any (MethodCall_ (n_loc C2 v3 ?_)) (by rfl) (by rfl))
    refine getMethod_list_append (C2.get (.tail _ (.head _))) rfl rfl ?_
    refine callWith_method1 (wpAny_items_cons (Attribute_any_ (Call_ (n_built (v := .builtin "iter") C2 (by with_unfolding_all rfl) boot_iter' (by decide) ?_))))
    have iaD : n0.ia ∉ D := hnd _ (.tail _ (List.mem_append_left _ (List.mem_map_of_mem (objs_info hn0))))
    have laD : n0.la ∉ D := hnd _ (.tail _ (List.mem_append_left _ (List.mem_map_of_mem (objs_lst hn0))))
    have daD : n0.da ∉ D := hnd _ (.tail _ (List.mem_append_left _ (List.mem_map_of_mem (objs_dd hn0))))
    have dD : d ∉ D := hnd _ (.head _)
    refine PyProof.Rows.callWith_builtin1 (wpAny_items_cons (Attribute_any_ (sub_dict (n_loc C2 v1 (n_loc C2 hk ⟨n0.k, t, rfl, rfl, DictOf.keeps N.dict (fun o e => C2.keep e dD), N.valueAt hn0, ?_⟩)))))
    refine slotRead C2.G (C2.keep (N.info n0 hn0) iaD) (C2.keep (N.dd n0 hn0) daD) rd_sc sl_sc rfl ?_
    refine wpAny_items_nil (iter_list (isList_of (C2.keep (N.lst n0 hn0) laD)) ?_)
    have C3 := C2.push { cls := .type "list_iterator", data := .fields #[.ref n0.la, .int 0 0] }
    refine get_next (C3.get (.head _)) ?_
    have C4 := C3.push { cls := .type "method-wrapper", data := .fields #[.builtin "list_iterator.__next__", .ref h2.objs.size] }
    let e0 : Value → Se := fun v => { k := n0.k, t := t, mw := (h2.push { cls := .type "list_iterator", data := .fields #[.ref n0.la, .int 0 0] }).objs.size, it := h2.objs.size, om := { cls := .type "method-wrapper", data := .fields #[.builtin "list_iterator.__next__", .ref h2.objs.size] }, oi := { cls := .type "list_iterator", data := .fields #[.ref n0.la, .int 0 0] }, la := n0.la, ep := n0.ep, i := 0, sv := n0.sv, sn := n0.sn, v := v }
    have K0 : ∀ v, SeOk g (e0 v) := fun v => ⟨rfl, rfl, rfl, rfl, N.lst n0 hn0, N.iv n0 hn0, fun p hp => (hup n0 hn0 p hp).1, Nat.zero_le _⟩
    have ok' : ∀ v, ∀ e ∈ es' ++ [e0 v], SeOk g e := fun v e he => by
      rcases List.mem_append.mp he with he | he
      · exact ok e he
      · rcases List.mem_singleton.mp he with rfl; exact K0 v
    have C5 : Cx w mg mb g L D m' (own4 st is sa da (listOf (es'.map fun e => Value.int e.k e.t).toArray n1) (listOf (es'.map fun e => Value.ref e.mw).toArray n2) so2 od (es' ++ [e0 .none]) tail ++ fr) _ := C4.sub fun p hp => by
      rcases List.mem_append.mp hp with hp | hp
      · rcases List.mem_cons.mp hp with rfl | hp
        · exact .tail _ (.tail _ (.head _))
        rcases List.mem_cons.mp hp with rfl | hp
        · exact .tail _ (.tail _ (.tail _ (.head _)))
        rcases List.mem_cons.mp hp with rfl | hp
        · exact .tail _ (.tail _ (.tail _ (.tail _ (.head _))))
        rcases List.mem_cons.mp hp with rfl | hp
        · exact .tail _ (.tail _ (.tail _ (.tail _ (.tail _ (.head _)))))
        rcases List.mem_append.mp hp with hp | hp
        · obtain ⟨y, hy, hp⟩ := List.mem_flatMap.mp hp
          rcases List.mem_append.mp hy with hy | hy
          · exact .tail _ (.tail _ (List.mem_append_left _ (.tail _ (.tail _ (.tail _ (.tail _ (List.mem_append_left _ (List.mem_flatMap.mpr ⟨y, hy, hp⟩))))))))
          · rcases List.mem_singleton.mp hy with rfl
            simp only [List.mem_cons, List.not_mem_nil, or_false] at hp
            rcases hp with rfl | rfl
            · exact .head _
            · exact .tail _ (.head _)
        · exact .tail _ (.tail _ (List.mem_append_left _ (.tail _ (.tail _ (.tail _ (.tail _ (List.mem_append_right _ hp)))))))
      · exact .tail _ (.tail _ (List.mem_append_right _ hp))
    have F5 : Four (listOf (es'.map fun e => Value.int e.k e.t).toArray n1) (listOf (es'.map fun e => Value.ref e.mw).toArray n2) so2 od := ⟨rfl, rfl, setOf_cls hS2 hso2, F4.c4⟩
    have hel : es'.length ≤ 80 := by exact ar123 hnl len
    refine wpAny_items_nil (wpAny_list_append_plain ⟨_, C5.get (.tail _ (.head _))⟩ (fun h6 hl6 sb6 => ?_) (by rw [sizeLine_eq, List.size_toArray, List.length_map]; exact ar124 hel))
    obtain ⟨n6, hl6⟩ := hl6
    rw [show ((es'.map fun e => Value.ref e.mw).toArray.push (Value.ref (e0 .none).mw)) = ((es' ++ [e0 .none]).map fun e => Value.ref e.mw).toArray from by simp] at hl6
    have C6 := upd_is C5 F5 (ok' _) FA MK sb6 hl6
    refine wpAny_execs_cons (wpAny_Assign_Subscript (Call_ (n_built (v := .builtin "len") C6 (by with_unfolding_all rfl) boot_len (by decide) ?_)))
    refine PyProof.Rows.callWith_builtin1 (wpAny_items_cons (n_loc C6 v2 (wpAny_items_nil ?_)))
    refine PyProof.Rows.len_list (isList_of (C6.get (.head _))) (by rw [List.size_toArray, List.length_map]; exact ar125 hel) ?_
    refine n_loc C6 v5 (n_loc C6 hk ?_)
    have hD6 : h6.DictOf (ik w) da (es'.map fun e => (e.k, e.v)) := dictOf_mv hD (C.get (.tail _ (.tail _ (.tail _ (.head _))))) (C6.get (.tail _ (.tail _ (.tail _ (.head _)))))
    refine wpAny_setItem_pairs (is_int n0.k t) hD6 (fun h7 hD7 sb7 => ?_) (by rw [sizeLine_eq, List.length_map]; exact ar124 hel)
    have hst : ∀ v, stored (es'.map fun e => (e.k, e.v)) n0.k v = (es' ++ [e0 v]).map fun e => (e.k, e.v) := fun v => by
      unfold stored
      rw [if_neg]
      · simp [e0]
      · simp only [List.any_eq_true, not_exists, not_and]
        intro kv hkv
        obtain ⟨e, he, rfl⟩ := List.mem_map.mp hkv
        have := hlt e he
        simp; exact ar12 this
    rw [hst] at hD7
    obtain ⟨v0, hD7⟩ : ∃ v, h7.DictOf (ik w) da ((es' ++ [e0 v]).map fun e => (e.k, e.v)) := ⟨_, hD7⟩
    obtain ⟨od7, _, _, hod7, _⟩ := id hD7
    have C7 := upd_da C6 ⟨rfl, rfl, F5.c3, F5.c4⟩ (ok' _) FA MK sb7 hod7
    refine wpAny_execs_cons (wpAny_Expr_any (MethodCall_ (n_loc C7 v2 ?_)) (by rfl) (by rfl))
    refine getMethod_list_append (C7.get (.head _)) rfl rfl ?_
    refine callWith_method1 (wpAny_items_cons (n_loc C7 hk (wpAny_items_nil ?_)))
    refine wpAny_list_append_plain ⟨_, C7.get (.head _)⟩ (fun h8 hl8 sb8 => ?_) (by rw [sizeLine_eq, List.size_toArray, List.length_map]; exact ar124 hel)
    obtain ⟨n8, hl8⟩ := hl8
    rw [show ((es'.map fun e => Value.int e.k e.t).toArray.push (Value.int n0.k t)) = ((es' ++ [e0 .none]).map fun e => Value.int e.k e.t).toArray from by simp [e0]] at hl8
    have C8 := upd_st C7 ⟨rfl, rfl, F5.c3, dictOf_cls hD7 hod7⟩ (ok' _) FA MK sb8 hl8
    refine wpAny_execs_nil (wpAny_execs_cons ?_)
    have hm : ∀ {β : Type} (f : Se → β), f (e0 .none) = f (e0 v0) → (es' ++ [e0 .none]).map f = (es' ++ [e0 v0]).map f := fun f hf => by simp [hf]
    have hfm : (es' ++ [e0 .none]).flatMap Se.objs = (es' ++ [e0 v0]).flatMap Se.objs := by simp [e0]
    rw [hm (fun e => Value.int e.k e.t) rfl, hm (fun e => Value.ref e.mw) rfl] at C8
    unfold own4 at C8
    rw [hfm] at C8
    obtain ⟨u1, u2⟩ := unseen_add hn0 N.nodup hs
    have F8 : Fc w mg mb g L D d ns fr₀ tail st is sa da m' (es' ++ [e0 v0]) (fun k' => S' k' || decide (k' = n0.k)) h8 := by
      refine ⟨⟨n8, n6, nS + 1, so2, od7, fr, C8, ?_, ?_, MK, by exact ar126 hcnt u2⟩, ok' _, ?_, ?_, ?_, ?_, ?_, ?_, v1, v2, v3, v4, v5⟩
      · exact setOf_mv hS2 hso2 (C8.get (.tail _ (.tail _ (.head _))))
      · exact dictOf_mv hD7 hod7 (C8.get (.tail _ (.tail _ (.tail _ (.head _)))))
      · intro e he
        rcases List.mem_append.mp he with he | he
        · exact ks e he
        · rcases List.mem_singleton.mp he with rfl
          exact fun p hp => (hup n0 hn0 p hp).2
      · exact List.pairwise_append.mpr ⟨inc, List.pairwise_singleton _ _, fun a ha b hb => by rcases List.mem_singleton.mp hb with rfl; exact hlt a ha⟩
      · intro e he
        rcases List.mem_append.mp he with he | he
        · simp [seen e he]
        · rcases List.mem_singleton.mp he with rfl
          simp [e0]
      · refine List.pairwise_append.mpr ⟨its, List.pairwise_singleton _ _, fun a ha b hb => ?_⟩
        rcases List.mem_singleton.mp hb with rfl
        exact Nat.ne_of_lt (C2.lt (List.mem_append_left _ (.tail _ (.tail _ (.tail _ (.tail _ (List.mem_append_left _ (List.mem_flatMap.mpr ⟨a, ha, .tail _ (.head _)⟩))))))))
      · rw [List.length_append, List.length_singleton]; exact ar126 len u2
      · intro e he
        rcases List.mem_append.mp he with he | he
        · exact lD e he
        · rcases List.mem_singleton.mp he with rfl
          exact laD
    show wpAny _ _ (exec (fcInner w) (envAt w 127 L)) _ _ _
    refine fc_inner F8 FA hh hA hlow hnl (fun h2 m2 tk2 F2 => ?_) fun h2 m2 tk2 es2 p tp F2 hp hlt2 hpn hrem => ?_
    · exact hB _ (hend h2 m2 _ _ F2)
    · refine wpAny_execs_nil ?_
      rw [remain_snoc] at hrem
      have hsl : (e0 v0).sv.length - (e0 v0).i = n0.sn.length := (N.iv n0 hn0).length
      exact (hJ _ _ (by exact ar127 u1 hrem hsl) ⟨h2, tk2, m2, es2, _, p, tp, rfl, rfl, F2, hp, hpn, hlt2⟩).1
end
end Mine

namespace Mine
section
variable {w : World} {mg mb : Str → Option Value} {s : Shared} {A : Around} {E : Value → Shared → Prop}
  {t1 t2 t3 t4 : Tok} {vN vR vP vF : Value} {x dx d : Addr} {n : Nat} {ns : List Nd} {outer : List Env} {fr : List (Addr × Obj)}

theorem find_cycle_spec {R : Result → Shared → Prop} (G : Gd w mg mb s.heap) (hh : A.handled = none) (hroom : A.depth + 5 < recursionLimit) (hA : A.frames = some outer) (O : Ofs outer fr) (hfr : ∀ p ∈ fr, s.heap.get? p.1 = some p.2 ∧ 181 ≤ p.1)
    (hx : s.heap.get? x = some (instObj 137 dx)) (hdx : s.heap.get? dx = some (dictOf (sEnt w t1 t2 t3 t4 (.ref d) vR vP vF) n)) (N : Nds w s.heap d ns) (ld : 181 ≤ d) (hup : ∀ n ∈ ns, ∀ p ∈ n.sn, n.k < p ∧ p ∈ ns.map (·.k)) (hlen : ns.length ≤ 80) (hsl : ∀ n ∈ ns, n.sn.length ≤ 100)
    (hdis : ∀ p ∈ fr, p.1 ≠ x ∧ p.1 ≠ dx ∧ p.1 ∉ fp d ns [])
    (h : ∀ h' fr' tk, Marked fr fr' → (∀ p ∈ fr', h'.get? p.1 = some p.2) → (∀ b o, s.heap.get? b = some o → b ∉ fr.map (·.1) → h'.get? b = some o) → R (.ok (.ret .none)) { s with heap := h', toks := tk }) :
    codeAny (model pg w) A (.call (.ref 127) ⟨[.ref x], []⟩) R s := by
  refine enter (binds := [("self", .ref x)]) G (by exact ar52 hroom) rfl (by with_unfolding_all rfl) (BindsTo.of_eq rfl) rfl rfl rfl rfl rfl ?_
  intro h₁ hns hk J₀ E₀ hJ₀ hN₀
  have C := Cx.start G hns hk fr hfr
  have xD : x ∉ fr.map (·.1) := fun q => by obtain ⟨p, hp, e⟩ := List.mem_map.mp q; exact (hdis p hp).1 e
  have dxD : dx ∉ fr.map (·.1) := fun q => by obtain ⟨p, hp, e⟩ := List.mem_map.mp q; exact (hdis p hp).2.1 e
  have fpD : ∀ b ∈ fp d ns [], b ∉ fr.map (·.1) := fun b hb q => by obtain ⟨p, hp, e⟩ := List.mem_map.mp q; exact (hdis p hp).2.2 (e ▸ hb)
  refine wpAny_execs_cons (wpAny_Assign_Name (Attribute_any_ (n_loc C rfl (a_dict C.G (C.keep hx xD) (C.keep hdx dxD) fN ?_))))
  refine s_loc C fun h2 C2 => ?_
  refine wpAny_execs_cons (wpAny_Assign_Name (wpAny_List (wpAny_items_nil ⟨by decide, ?_⟩)))
  have C3 := C2.push (listOf #[] 0)
  refine s_loc C3 fun h4 C4 => ?_
  refine wpAny_execs_cons (wpAny_Assign_Name (wpAny_List (wpAny_items_nil ⟨by decide, ?_⟩)))
  have C5 := C4.push (listOf #[] 0)
  refine s_loc C5 fun h6 C6 => ?_
  refine wpAny_execs_cons (wpAny_Assign_Name (Call_ (n_built (v := .type "set") C6 (by with_unfolding_all rfl) (by decide +kernel) (by decide) ?_)))
  refine PyProof.Rows.callWith_type0 (call_set_0 fun led => ?_)
  have C7 := C6.push { cls := .type "set", dict := none, data := .set #[] 0 (.fresh 0 0 led) }
  refine s_loc C7 fun h8 C8 => ?_
  refine wpAny_execs_cons (wpAny_Assign_Name (wpAny_Dict_empty ?_))
  have C9 := C8.push { cls := .type "dict", data := .dict #[] }
  refine s_loc C9 fun h10 C10 => ?_
  have fpD' : ∀ b ∈ fp d ns [], b ∉ fr.map (·.1) := fpD
  have dD : d ∉ fr.map (·.1) := fpD _ (.head _)
  have Dat : ∃ ep, s.heap.DictAt (ik w) d (kvOf ns) ep := by
    obtain ⟨o, es, ep, r⟩ := N.dict
    exact ⟨ep, o, es, r⟩
  obtain ⟨ep, Dat⟩ := Dat
  have datK : ∀ {m own h}, Cx w mg mb s.heap s.heap.objs.size (fr.map (·.1)) m own h → h.DictAt (ik w) d (kvOf ns) ep := fun C => by
    obtain ⟨o, es, ho, r⟩ := Dat
    exact ⟨o, es, C.keep ho dD, r⟩
  refine wpAny_execs_cons (wpAny_For (n_loc C10 rfl (wpAny_pyIter_dict (low_sys ld) (datK C10) ?_)))
  have C11 := C10.push { cls := .type "dict_keyiterator", data := .fields #[.ref d, .int 0 0, .int (kvOf ns).length 0, .int ep 0] }
  have nfr : ∀ {m own h}, Cx w mg mb s.heap s.heap.objs.size (fr.map (·.1)) m own h → (∀ p ∈ fr, p ∈ own) → h.objs.size ∉ frs outer := fun C hs q => by
    obtain ⟨p, hp, e⟩ := O.frs q
    exact absurd e (Nat.ne_of_lt (C.lt (hs p hp : (p.1, p.2) ∈ _)))
  let st := h2.objs.size
  let is := h4.objs.size
  let sa := h6.objs.size
  let da := h8.objs.size
  let it := h10.objs.size
  have FA : ∀ oi : Obj, oi.cls = .type "dict_keyiterator" → Fa fr [(it, oi)] outer st is sa da := fun oi hc => by
    refine ⟨O, Nat.ne_of_lt (C4.lt (.head _)), Nat.ne_of_lt (C8.lt (.head _)), fun p hp => ?_, fun p hp => ?_, nfr C2 fun p hp => hp, nfr C4 fun p hp => .tail _ hp, nfr C6 fun p hp => .tail _ (.tail _ hp), nfr C8 fun p hp => .tail _ (.tail _ (.tail _ hp))⟩
    · rcases List.mem_singleton.mp hp with rfl; exact hc
    · rcases List.mem_singleton.mp hp with rfl; exact nfr C10 fun p hp => .tail _ (.tail _ (.tail _ (.tail _ hp)))
  have hA' : ∀ {A' : Around}, A'.frames = some (envAt w 127 s.heap.objs.size :: outer) → True := fun _ => trivial
  refine forL (fun j s' => ∃ i h' tk m' S oi, s' = { s with heap := h', toks := tk } ∧ j + i = ns.length ∧ Fc w mg mb s.heap s.heap.objs.size (fr.map (·.1)) d ns fr [(it, oi)] st is sa da m' [] S h' ∧ oi.cls = .type "dict_keyiterator" ∧ oi.data = .fields #[.ref d, .int (i : Nat) 0, .int (kvOf ns).length 0, .int ep 0]) ?_ ns.length ?_
  · rintro j s' J Fo E₁ ⟨i, h', tk, m', S, oi, rfl, hj, F, hc, hd⟩ hJ hF hV
    obtain ⟨⟨n1, n2, nS, so, od, fr', C, hS, hD, MK, hcnt⟩, ok, ks, inc, seen, its, len, lD, v1, v2, v3, v4, v5⟩ := F
    have itm : (it, oi) ∈ seOwn st is sa da n1 n2 so od [] [(it, oi)] ++ fr' := .tail _ (.tail _ (.tail _ (.tail _ (.head _))))
    have hit : h'.IsKeyIter it d i (kvOf ns).length ep := ⟨oi, C.get itm, hc, hd⟩
    have frne : ∀ p ∈ fr', p.1 ≠ it := fun p hp => Cx.apart' C itm (List.mem_append_right _ hp) fun q => (O.marked MK).data p hp _ (q ▸ hd)
    have F4 : Four (listOf (([] : List Se).map fun e => Value.int e.k e.t).toArray n1) (listOf (([] : List Se).map fun e => Value.ref e.mw).toArray n2) so od := ⟨rfl, rfl, setOf_cls hS (C.get (.tail _ (.tail _ (.head _)))), dictOf_cls hD (C.get (.tail _ (.tail _ (.tail _ (.head _)))))⟩
    cases hv : (kvOf ns)[i]? with
    | none =>
      refine wpAny_pyNext_dict_end hh hit (datK C) hv fun h5 ext => ?_
      have C6 : Cx w mg mb s.heap s.heap.objs.size (fr.map (·.1)) m' fr' h5 := C.call (D' := [it]) (fun b o eb q => ext b o (by simpa using q) eb) (fun b hb => by rcases List.mem_singleton.mp hb with rfl; exact ⟨_, itm⟩) fun p hp => .inl ⟨List.mem_append_right _ hp, by simpa using frne p hp⟩
      refine (hF _ (wpAny_execs_cons (wpAny_Return_some (wpAny_Constant_none ?_)))).1
      exact hJ₀ _ _ (h h5 fr' _ MK (fun p hp => C6.get (hp : (p.1, p.2) ∈ _)) fun b o e q => C6.keep e q)
    | some kv =>
      refine wpAny_pyNext_dict_item hit (datK C) hv fun key h5 hkey hit5 sb => ?_
      obtain ⟨oi5, ho5, hc5, hd5⟩ := hit5
      obtain ⟨tk0, rfl⟩ := Value.isInt_shape hkey
      have C5 : Cx w mg mb s.heap s.heap.objs.size (fr.map (·.1)) m' (seOwn st is sa da n1 n2 so od [] [(it, oi5)] ++ fr') h5 := C.chg itm sb ho5 fun p hp => by
        rcases List.mem_append.mp hp with hp | hp
        · simp only [seOwn, List.flatMap_nil, List.nil_append, List.mem_cons, List.not_mem_nil, or_false] at hp
          rcases hp with rfl | rfl | rfl | rfl | rfl
          · exact .inr ⟨C.apart itm (p := (st, _)) (.head _) (by rw [hc]; simp), .head _⟩
          · exact .inr ⟨C.apart itm (p := (is, _)) (.tail _ (.head _)) (by rw [hc]; simp), .tail _ (.head _)⟩
          · exact .inr ⟨C.apart itm (p := (sa, so)) (.tail _ (.tail _ (.head _))) (by rw [hc, show (sa, so).2.cls = _ from F4.c3]; simp), .tail _ (.tail _ (.head _))⟩
          · exact .inr ⟨C.apart itm (p := (da, od)) (.tail _ (.tail _ (.tail _ (.head _)))) (by rw [hc, show (da, od).2.cls = _ from F4.c4]; simp), .tail _ (.tail _ (.tail _ (.head _)))⟩
          · exact .inl rfl
        · exact .inr ⟨frne p hp, List.mem_append_right _ hp⟩
      refine as_loc C5 fun h6 C6 => ?_
      have hS6 : h6.SetOf (ik w) sa S nS := setOf_mv hS (C.get (.tail _ (.tail _ (.head _)))) (C6.get (.tail _ (.tail _ (.head _))))
      have hD6 : h6.DictOf (ik w) da (([] : List Se).map fun e => (e.k, e.v)) := dictOf_mv hD (C.get (.tail _ (.tail _ (.tail _ (.head _))))) (C6.get (.tail _ (.tail _ (.tail _ (.head _)))))
      have F6 : Fc w mg mb s.heap s.heap.objs.size (fr.map (·.1)) d ns fr [(it, oi5)] st is sa da _ [] S h6 := ⟨⟨n1, n2, nS, so, od, fr', C6, hS6, hD6, MK, hcnt⟩, by simp, by simp, .nil, by simp, .nil, len, by simp, v1, v2, v3, v4, v5⟩
      have hi := (List.getElem?_eq_some_iff.mp hv).1
      rw [List.length_map] at hi
      have hkm : kv.1 ∈ ns.map (·.k) := by
        obtain ⟨n0, hn0, e⟩ := List.mem_map.mp (List.mem_of_getElem? hv)
        exact List.mem_map.mpr ⟨n0, hn0, by rw [← e]⟩
      refine wpAny_execs_cons (wpAny_If (wpAny_isTrue_Compare1 (n_loc C6 rfl (n_loc C6 v4 (wpAny_inSet_of (is_int kv.1 tk0) rfl hS6 (wpAny_truthy_bool ?_))))))
      cases hs : S kv.1 with
      | true =>
        refine wpAny_execs_cons (wpAny_Continue ?_)
        exact (hJ (j - 1) _ (by exact ar109 hj hi) ⟨i + 1, h6, _, _, S, oi5, rfl, by exact ar110 hj hi, F6, hc5, hd5⟩).2
      | false =>
        refine wpAny_execs_nil (wpAny_execs_cons ?_)
        show wpAny _ _ (exec (fcWhile w) (envAt w 127 s.heap.objs.size)) _ _ _
        refine fc_while (N := N) fpD hup F6 rfl hkm (FA oi5 hc5) hh ?_ ?_ hlen fun h7 m7 S7 tk7 F7 => ?_
        · show Option.map (fun l => envAt w 127 s.heap.objs.size :: l) A.frames = _
          rw [hA]; rfl
        · exact Nat.le_trans (Nat.le_trans ld (Nat.le_of_lt (by obtain ⟨o, es, ho, _⟩ := Dat; exact Heap.lt_size ho))) (Nat.le_of_lt C8.ns.lt)
        refine wpAny_execs_nil ?_
        exact (hJ (j - 1) _ (by exact ar109 hj hi) ⟨i + 1, h7, tk7, m7, S7, oi5, rfl, by exact ar110 hj hi, F7, hc5, hd5⟩).1
  · refine ⟨0, _, _, _, fun _ => false, { cls := .type "dict_keyiterator", data := .fields #[.ref d, .int 0 0, .int (kvOf ns).length 0, .int ep 0] }, rfl, by simp, ⟨⟨0, 0, 0, { cls := .type "set", dict := none, data := .set #[] 0 (.fresh 0 0 led) }, { cls := .type "dict", data := .dict #[] }, fr, C11.sub fun p hp => ?_, ?_, ?_, Marked.refl _, ?_⟩, by simp, by simp, .nil, by simp, .nil, ?_, by simp, rfl, rfl, rfl, rfl, rfl⟩, rfl, rfl⟩
    · simp only [seOwn, List.flatMap_nil, List.nil_append, List.cons_append, List.mem_cons, List.map_nil] at hp ⊢
      rcases hp with rfl | rfl | rfl | rfl | rfl | hp
      · simp [st]
      · simp [is]
      · simp [sa]
      · simp [da]
      · simp [it]
      · simp [hp]
    · exact ⟨_, #[], 0, _, C11.get (.tail _ (.tail _ (.head _))), ⟨rfl, rfl, rfl⟩, rfl, fun e he => by simp at he, fun k => by simp, by decide, by rfl, rfl⟩
    · exact dictOf_mv (Heap.DictOf.new h8) (C9.get (.head _)) (C11.get (.tail _ (.head _)))
    · have := List.length_filter_le (fun n => !(fun _ => false) n.k) ns
      unfold unseenN; exact ar120 this
    · have := List.length_filter_le (fun n => !(fun _ => false) n.k) ns
      unfold unseenN; show 0 + _ ≤ _; exact ar120 this
end
end Mine

namespace Mine
def readyOf (ns : List Nd) : List Int := (ns.filter fun n => n.np == 0).map (·.k)
theorem paired_ready {p : Value → Bool} {F : Value → Value → Prop} : ∀ {l : List Nd} {ys : List Value}, (∀ n ∈ l, p (.ref n.ia) = (n.np == 0)) → (∀ n ∈ l, ∀ y, F (.ref n.ia) y → ∃ t, y = .int n.k t) → Paired F ((l.map fun n => Value.ref n.ia).filter p) ys → IntsAre ys (readyOf l)
  | [], ys, _, _, h => by cases h; exact .nil
  | n :: l, ys, h1, h2, h => by
    rw [List.map_cons, List.filter_cons, h1 n (.head _)] at h
    unfold readyOf
    rw [List.filter_cons]
    cases hz : (n.np == 0) with
    | false =>
      rw [hz] at h
      exact paired_ready (fun n hn => h1 n (.tail _ hn)) (fun n hn => h2 n (.tail _ hn)) h
    | true =>
      rw [hz] at h
      cases h with
      | cons a b =>
        obtain ⟨t, rfl⟩ := h2 n (.head _) _ a
        exact .cons _ _ (paired_ready (fun n hn => h1 n (.tail _ hn)) (fun n hn => h2 n (.tail _ hn)) b)
section
variable {w : World} {mg mb : Str → Option Value} {s : Shared} {A : Around} {E : Value → Shared → Prop} {env : Env}
/-- a list comprehension that only reads, its list's address told -/
structure Comp0I (w : World) (A : Around) (env : Env) (scope : Scope) (x : Str) (ifs : List Expr) (elt : Expr) (p : Value → Bool) (F : Value → Value → Prop) (Q : Value → Shared → Prop) (it : Value) (s₂ : Shared)
    (I : Addr) (fp wr : List Addr) (n : Nat) (P : Nat → Value → Prop) (St : Nat → Heap → Prop) : Prop where
  hit : it = .ref I
  W : Walks pg w A I fp wr n P St
  hn : n ≤ sizeLine
  hst : St 0 s₂.heap
  hfp : ∀ b ∈ fp, b < s₂.heap.objs.size
  both : (∀ C i v s₃ m₃ E', P i v → s₃.heap.Ns C m₃ → m₃ x = some v → (∀ b o, b ∉ wr → s₂.heap.get? b = some o → s₃.heap.get? b = some o) →
        wpAny (model pg w) A (forIn ifs true fun c r => if r = true then do let ok ← isTrue c (compEnv scope C env) (eval c (compEnv scope C env)); pure (ForInStep.yield ok) else pure (ForInStep.yield r)) (fun ok s₄ => ok = p v ∧ Keeps s₃ s₄) E' s₃) ∧
      (∀ C i v s₃ m₃ E', P i v → p v = true → s₃.heap.Ns C m₃ → m₃ x = some v → (∀ b o, b ∉ wr → s₂.heap.get? b = some o → s₃.heap.get? b = some o) →
        wpAny (model pg w) A (eval elt (compEnv scope C env)) (fun y s₄ => F v y ∧ Keeps s₃ s₄) E' s₃)
  res : ∀ h' tk ys (vs : List Value), h'.PlainList s₂.heap.objs.size ys → vs.length = n → (∀ j v, vs[j]? = some v → P j v) → Paired F (vs.filter p) ys.toList →
        (∀ b o, b ∉ wr → s₂.heap.get? b = some o → h'.get? b = some o) → Q (.ref s₂.heap.objs.size) { s₂ with heap := h', toks := tk }
theorem listComp0 {elt iter : Expr} {x : Str} {px : Pos} {ifs : List Expr} {scope : Scope} {pos : Pos} {Q : Value → Shared → Prop} (p : Value → Bool) (F : Value → Value → Prop) (hx : scope.names.lookup x = some .local)
    (h : wpAny (model pg w) A (eval iter env) (fun xv s₁ => wpAny (model pg w) A (pyIter xv) (fun it s₂ => ∃ I fp wr n P St, Comp0I w A env scope x ifs elt p F Q it s₂ I fp wr n P St) E s₁) E s)
    (hfree : (scope.names.all fun x => x.2 != .free && x.2 != .cell) = true := by rfl) (hkind : scope.kind = .function := by rfl) (hnames : (scope.names.all fun x => x.2 != .local || decide (scope.names.lookup x.1 = some .local)) = true := by rfl)
    (hs : ∀ x, foldedSetIterable iter env x = pure x := by intro _; rfl) :
    wpAny (model pg w) A (eval (.ListComp elt [⟨.Name x px, iter, ifs, 0⟩] scope pos) env) Q E s := by
  refine comp0 (wpAny_mono h (fun xv s₁ h₁ => wpAny_mono h₁ (fun it s₂ h₂ => ?_) fun _ _ q => q) fun _ _ q => q) hfree hkind hnames hs
  obtain ⟨I, fp, wr, n, P, St, rfl, W, hn, hst, hfp, ⟨ht, he⟩, hq⟩ := h₂
  intro h₄ hns hk
  have hC : (s₂.heap.push (listOf #[] 0)).objs.size = s₂.heap.objs.size + 1 := Heap.size_push ..
  have lt : ∀ {b o}, s₂.heap.get? b = some o → b < s₂.heap.objs.size := fun e => Heap.lt_size e
  have keep : ∀ b o, s₂.heap.get? b = some o → h₄.get? b = some o := fun b o e => hk b o (Heap.get?_push_of_some _ e)
  have hst4 : St 0 h₄ := W.frame 0 _ _ hst fun b _ o e => keep b o e
  refine ⟨fun E' Q' hq' => W.self 0 _ Q' E' hst4 hq', ?_⟩
  refine codeAny_compLoop_walk (hsz := hn) (cenv := compEnv scope (s₂.heap.push (listOf #[] 0)).objs.size env) W p F hx (by show (scope.kind == .class || (scope.kind == .module && _)) = false; rw [hkind]; rfl) (by show s₂.heap.objs.size ≠ (s₂.heap.push (listOf #[] 0)).objs.size; rw [hC]; exact Nat.ne_of_lt (Nat.lt_succ_self _)) (fun q => Nat.lt_irrefl _ (hfp _ q)) (fun q => by have := hfp _ q; change (s₂.heap.push (listOf #[] 0)).objs.size < _ at this; rw [hC] at this; exact absurd this (by exact ar191)) hst4
    ⟨0, hk _ _ (Heap.get?_push_size _ rfl)⟩ hns (fun i v s₃ m₃ hP hn3 hm3 hk3 _ => ht _ i v s₃ m₃ _ hP hn3 hm3 fun b o hb e => hk3 b o ?_ hb (Nat.ne_of_lt (lt e)) (keep b o e)) (fun i v s₃ m₃ hP hp hn3 hm3 hk3 _ => he _ i v s₃ m₃ _ hP hp hn3 hm3 fun b o hb e => hk3 b o ?_ hb (Nat.ne_of_lt (lt e)) (keep b o e)) fun h' tk m' ys vs hn' hl hpl hlen hP hF hk' => ?_
  · show b ≠ (s₂.heap.push (listOf #[] 0)).objs.size; rw [hC]; exact Nat.ne_of_lt (Nat.lt_succ_of_lt (lt e))
  · show b ≠ (s₂.heap.push (listOf #[] 0)).objs.size; rw [hC]; exact Nat.ne_of_lt (Nat.lt_succ_of_lt (lt e))
  · refine ⟨m', hn', fun h'' hs'' => hq h'' tk ys vs (hpl.extBut hs''.extBut ?_) hlen hP hF fun b o hb e => ?_⟩
    · rw [hC]; exact Nat.ne_of_lt (Nat.lt_succ_self _)
    · have := lt e
      exact hs''.extBut b o (by rw [hC]; exact Nat.ne_of_lt (Nat.lt_succ_of_lt this)) (hk' b o (by show b ≠ (s₂.heap.push (listOf #[] 0)).objs.size; rw [hC]; exact Nat.ne_of_lt (Nat.lt_succ_of_lt this)) hb (Nat.ne_of_lt this) (keep b o e))
end
theorem Marked.cons_inv {L : Addr} {oL : Obj} {fr fr'' : List (Addr × Obj)} (M : Marked ((L, oL) :: fr) fr'') (hL : ∀ p ∈ fr, p.1 ≠ L) :
    ∃ oL' fr', fr'' = (L, oL') :: fr' ∧ (∃ sl, oL' = { oL with slots := sl }) ∧ (L ∉ fr'.map (·.1)) ∧ Marked fr fr' := by
  obtain ⟨h1, h2⟩ := M
  cases fr'' with
  | nil => simp at h1
  | cons p0 fr' =>
    obtain ⟨a0, o0⟩ := p0
    rw [List.map_cons, List.map_cons, List.cons.injEq] at h1
    obtain ⟨rfl, h1⟩ := h1
    refine ⟨o0, fr', rfl, ?_, fun q => ?_, h1, fun p' hp' => ?_⟩
    · obtain ⟨p, hp, e, sl, q⟩ := h2 _ (.head _)
      rcases List.mem_cons.mp hp with rfl | hp
      · exact ⟨sl, q⟩
      · exact absurd e.symm (hL p hp)
    · rw [h1] at q
      obtain ⟨p, hp, e⟩ := List.mem_map.mp q
      exact hL p hp e
    · obtain ⟨p, hp, e, q⟩ := h2 p' (.tail _ hp')
      rcases List.mem_cons.mp hp with rfl | hp
      · have : p'.1 ∈ fr.map (·.1) := h1 ▸ List.mem_map_of_mem hp'
        obtain ⟨r, hr, e'⟩ := List.mem_map.mp this
        exact absurd (e'.trans e) (hL r hr)
      · exact ⟨p, hp, e, q⟩
theorem Nds.by {w : World} {h h' : Heap} {d : Addr} {ns : List Nd} (N : Nds w h d ns) (hk : ∀ b ∈ fp d ns [], ∀ o, h.get? b = some o → h'.get? b = some o) : Nds w h' d ns := by
  have m : ∀ {p}, p ∈ objsOf ns → p.1 ∈ fp d ns [] := fun hp => .tail _ (List.mem_append_left _ (List.mem_map_of_mem hp))
  exact ⟨DictOf.keeps N.dict fun o e => hk _ (.head _) _ e, fun n q => hk _ (m (objs_info q)) _ (N.info n q), fun n q => hk _ (m (objs_lst q)) _ (N.lst n q), fun n q => hk _ (m (objs_dd q)) _ (N.dd n q), N.iv, N.li, N.ll, N.lda, N.inj, N.dne, N.len⟩
theorem Nds.old {w : World} {h : Heap} {d : Addr} {ns : List Nd} (N : Nds w h d ns) : ∀ b ∈ fp d ns [], ∃ o, h.get? b = some o := fun b hb => by
  rcases List.mem_cons.mp hb with rfl | hb
  · obtain ⟨o, _, _, ho, _⟩ := N.dict; exact ⟨o, ho⟩
  · rw [List.append_nil] at hb
    obtain ⟨p, hp, rfl⟩ := List.mem_map.mp hb
    obtain ⟨n, hn, rfl | rfl | rfl⟩ := mem_objs hp
    · exact ⟨_, N.info n hn⟩
    · exact ⟨_, N.lst n hn⟩
    · exact ⟨_, N.dd n hn⟩
section
variable {w : World} {mg mb : Str → Option Value} {s : Shared} {A : Around} {E : Value → Shared → Prop}
  {t1 t2 t3 t4 : Tok} {vN vR vP vF : Value} {x dx d : Addr} {n : Nat} {ns : List Nd} {outer : List Env} {fr : List (Addr × Obj)}
theorem prepare_spec {R : Result → Shared → Prop} (G : Gd w mg mb s.heap) (hh : A.handled = none) (hroom : A.depth + 6 < recursionLimit) (hA : A.frames = some outer) (O : Ofs outer fr) (hfr : ∀ p ∈ fr, s.heap.get? p.1 = some p.2 ∧ 181 ≤ p.1)
    (hx : s.heap.get? x = some (instObj 137 dx)) (hdx : s.heap.get? dx = some (dictOf (sEnt w t1 t2 t3 t4 (.ref d) .none vP vF) n)) (N : Nds w s.heap d ns) (ld : 181 ≤ d) (ldx : 181 ≤ dx) (hup : ∀ n ∈ ns, ∀ p ∈ n.sn, n.k < p ∧ p ∈ ns.map (·.k)) (hlen : ns.length ≤ 80) (hsl : ∀ n ∈ ns, n.sn.length ≤ 100)
    (hne : d ≠ dx) (hnod : dx ∉ (objsOf ns).map (·.1)) (hdis : ∀ p ∈ fr, p.1 ≠ x ∧ p.1 ≠ dx ∧ p.1 ∉ fp d ns [])
    (h : ∀ h' fr' rl rv n' n'' tk, Marked fr fr' → (∀ p ∈ fr', h'.get? p.1 = some p.2) → (∀ b o, s.heap.get? b = some o → b ∉ fr.map (·.1) → b ≠ dx → h'.get? b = some o) → h'.get? dx = some (dictOf (sEnt w t1 t2 t3 t4 (.ref d) (.ref rl) vP vF) n') →
      h'.get? rl = some (listOf rv.toArray n'') → IntsAre rv (readyOf ns) → s.heap.get? rl = none → 181 ≤ rl → R (.ok (.ret .none)) { s with heap := h', toks := tk }) :
    codeAny (model pg w) A (.call (.ref 92) ⟨[.ref x], []⟩) R s := by
  refine enter (binds := [("self", .ref x)]) G (by exact ar192 hroom) rfl (by with_unfolding_all rfl) (BindsTo.of_eq rfl) rfl rfl rfl rfl rfl ?_
  intro h₁ hns hk J₀ E₀ hJ₀ hN₀
  have C := Cx.start G hns hk ((dx, dictOf (sEnt w t1 t2 t3 t4 (.ref d) .none vP vF) n) :: fr) (fun p hp => by
    rcases List.mem_cons.mp hp with rfl | hp
    · exact ⟨hdx, ldx⟩
    · exact hfr p hp)
  have xD : x ∉ ((dx, dictOf (sEnt w t1 t2 t3 t4 (.ref d) .none vP vF) n) :: fr).map (·.1) := fun q => by
    rcases List.mem_cons.mp q with q | q
    · rw [q, hdx] at hx; cases hx
    · obtain ⟨p, hp, e⟩ := List.mem_map.mp q; exact (hdis p hp).1 e
  have fpD : ∀ b ∈ fp d ns [], b ∉ ((dx, dictOf (sEnt w t1 t2 t3 t4 (.ref d) .none vP vF) n) :: fr).map (·.1) := fun b hb q => by
    rcases List.mem_cons.mp q with q | q
    · subst q
      rcases List.mem_cons.mp hb with hb | hb
      · exact hne hb.symm
      · rw [List.append_nil] at hb; exact hnod hb
    · obtain ⟨p, hp, e⟩ := List.mem_map.mp q; exact (hdis p hp).2.2 (e ▸ hb)
  refine wpAny_execs_cons (wpAny_If (wpAny_isTrue_Compare1 (Attribute_any_ (n_loc C rfl (a_dict C.G (C.keep hx xD) (C.get (.head _)) fR ?_)))))
  refine wpAny_Constant_none (isNot_none (wpAny_truthy_bool (wpAny_execs_nil ?_)))
  refine wpAny_execs_cons (plainObj_wpAny_Assign_Attribute ?_)
  let p : Value → Bool := fun v => ns.any fun n => n.np == 0 && v == .ref n.ia
  let F : Value → Value → Prop := fun v y => ∃ n ∈ ns, v = .ref n.ia ∧ ∃ t, y = .int n.k t
  refine listComp0 p F rfl ?_
  refine MethodCall_ (Attribute_any_ (n_loc C rfl (a_dict C.G (C.keep hx xD) (C.get (.head _)) fN ?_)))
  have dD := fpD _ (.head _)
  have Dat : ∃ ep, s.heap.DictAt (ik w) d (kvOf ns) ep := by
    obtain ⟨o, es, ep, r⟩ := N.dict
    exact ⟨ep, o, es, r⟩
  obtain ⟨ep, Dat⟩ := Dat
  have datK : ∀ {m own h}, Cx w mg mb s.heap s.heap.objs.size (((dx, dictOf (sEnt w t1 t2 t3 t4 (.ref d) .none vP vF) n) :: fr).map (·.1)) m own h → h.DictAt (ik w) d (kvOf ns) ep := fun C => by
    obtain ⟨o, es, ho, r⟩ := Dat
    exact ⟨o, es, C.keep ho dD, r⟩
  have D1 := (datK C).dictOf
  refine getMethod_builtin D1.typeIs PySem.F.plainAttrs_dict PySem.F.slot_dict_values PySem.F.type_dict_values D1.mapOf.noDict ?_
  refine callWith_method0 ?_
  refine call_meetsIn PySem.F.slot_dict_values D1.typeIs PySem.F.entry_dict_values (PySem.F.args_dict_values_1 _) (meets_dict_values (ik w) d (low_sys ld)) ⟨⟨_, D1⟩, ?_⟩
  have C2 := C.push { cls := .type "dict_values", data := .fields #[.ref d] }
  refine wpAny_pyIter_values ⟨_, C2.get (.head _), rfl, rfl⟩ (datK C2) ?_
  have C3 := C2.push { cls := .type "dict_valueiterator", data := .fields #[.ref d, .int 0 0, .int (kvOf ns).length 0, .int ep 0] }
  have big : 181 ≤ h₁.objs.size := Nat.le_trans ld (Nat.le_of_lt (by obtain ⟨o, es, ho, _⟩ := datK C; exact Heap.lt_size ho))
  have hItd : d ≠ (h₁.push { cls := .type "dict_values", data := .fields #[.ref d] }).objs.size := Nat.ne_of_lt (by obtain ⟨o, es, ho, _⟩ := datK C2; exact Heap.lt_size ho)
  refine ⟨_, _, _, _, _, _, rfl, Walks.dictValues (prog := pg) (w := w) (knd := ik w) (A := A.deeper _) hh _ d hItd (kvOf ns) ep, ?_, ⟨⟨_, C3.get (.head _), rfl, rfl⟩, datK C3⟩, ?_, ?_, ?_⟩
  · rw [sizeLine_eq, List.length_map]; exact ar124 hlen
  · intro b hb
    simp only [List.mem_cons, List.not_mem_nil, or_false] at hb
    rcases hb with rfl | rfl
    · exact C3.lt (.head _)
    · obtain ⟨o, es, ho, _⟩ := datK C3; exact Heap.lt_size ho
  · have hN : ∀ (i : Nat) (v : Value), (∃ k, (kvOf ns)[i]? = some (k, v)) → ∃ n ∈ ns, v = .ref n.ia := fun i v ⟨k, hk⟩ => by
      obtain ⟨n0, hn0, e⟩ := List.mem_map.mp (List.mem_of_getElem? hk)
      cases e; exact ⟨n0, hn0, rfl⟩
    let I := (h₁.push { cls := .type "dict_values", data := .fields #[.ref d] }).objs.size
    have hpv : ∀ n ∈ ns, p (.ref n.ia) = (n.np == 0) := fun n hn => by
      show (ns.any fun n' => n'.np == 0 && Value.ref n.ia == .ref n'.ia) = _
      cases hz : (n.np == 0) with
      | true => exact List.any_eq_true.mpr ⟨n, hn, by simp [hz]⟩
      | false =>
        rw [List.any_eq_false]
        intro n' hn' q
        simp only [Bool.and_eq_true, beq_iff_eq, Value.ref.injEq] at q
        rw [N.iinj hn hn' q.2, q.1] at hz
        simp at hz
    have fpm : ∀ {p : Addr × Obj}, p ∈ objsOf ns → p.1 ∈ fp d ns [] := fun hp => .tail _ (List.mem_append_left _ (List.mem_map_of_mem hp))
    have G3 : ∀ {m own h3}, Cx w mg mb s.heap s.heap.objs.size (((dx, dictOf (sEnt w t1 t2 t3 t4 (.ref d) .none vP vF) n) :: fr).map (·.1)) m own h3 → ∀ s₃ : Shared, (∀ b o, b ∉ [I] → h3.get? b = some o → s₃.heap.get? b = some o) → Gd w mg mb s₃.heap := fun C3 s₃ hk3 => C3.G.keeps fun b o hb e => hk3 b o (by
      rw [List.mem_singleton]
      exact Nat.ne_of_lt (Nat.lt_of_lt_of_le hb (Nat.le_trans big (Nat.le_of_lt (C2.lt (.head _)))))) e
    have O3 : ∀ {m own h3}, Cx w mg mb s.heap s.heap.objs.size (((dx, dictOf (sEnt w t1 t2 t3 t4 (.ref d) .none vP vF) n) :: fr).map (·.1)) m own h3 → ∀ s₃ : Shared, (∀ b o, b ∉ [I] → h3.get? b = some o → s₃.heap.get? b = some o) → ∀ p ∈ objsOf ns, s.heap.get? p.1 = some p.2 → s₃.heap.get? p.1 = some p.2 := fun C3 s₃ hk3 p hp e => hk3 _ _ (by
      rw [List.mem_singleton]
      exact Nat.ne_of_lt (Heap.lt_size (C2.keep e (fpD _ (fpm hp))))) (C3.keep e (fpD _ (fpm hp)))
    refine ⟨?_, ?_⟩
    · intro Cc i v s₃ m₃ E' hP hns3 hm3 hk3
      obtain ⟨n0, hn0, rfl⟩ := hN i v hP
      have o1 := O3 C3 s₃ hk3 _ (objs_info hn0) (N.info n0 hn0)
      have o2 := O3 C3 s₃ hk3 _ (objs_dd hn0) (N.dd n0 hn0)
      refine wpAny_tests_one (wpAny_isTrue_Compare1 (Attribute_any_ (wpAny_Name (wpAny_loadName_local rfl rfl hns3 hm3 (slotRead (G3 C3 s₃ hk3) o1 o2 rd_np sl_np rfl ?_)) rfl)))
      refine wpAny_Constant_int (PyProof.Rows.eq_int (wpAny_truthy_bool ⟨?_, ⟨_, _, rfl, fun _ _ e => e⟩⟩))
      rw [hpv n0 hn0]
    · intro Cc i v s₃ m₃ E' hP hpv' hns3 hm3 hk3
      obtain ⟨n0, hn0, rfl⟩ := hN i v hP
      have o1 := O3 C3 s₃ hk3 _ (objs_info hn0) (N.info n0 hn0)
      have o2 := O3 C3 s₃ hk3 _ (objs_dd hn0) (N.dd n0 hn0)
      refine Attribute_any_ (wpAny_Name (wpAny_loadName_local rfl rfl hns3 hm3 (slotRead (G3 C3 s₃ hk3) o1 o2 rd_node sl_node rfl ?_)) rfl)
      exact ⟨⟨n0, hn0, rfl, _, rfl⟩, ⟨_, _, rfl, fun _ _ e => e⟩⟩
  · intro h4 tk ys vs hpl hlen' hP hF hk4
    generalize hDe : ((h₁.push { cls := .type "dict_values", data := .fields #[.ref d] }).push { cls := .type "dict_valueiterator", data := .fields #[.ref d, .int 0 0, .int (kvOf ns).length 0, .int ep 0] }).objs.size = D at hpl ⊢
    have hD : ((h₁.push { cls := .type "dict_values", data := .fields #[.ref d] }).push { cls := .type "dict_valueiterator", data := .fields #[.ref d, .int 0 0, .int (kvOf ns).length 0, .int ep 0] }).get? D = none := none_of_ge (Nat.le_of_eq hDe)
    have lowD : 181 ≤ D := hDe ▸ Nat.le_trans big (Nat.le_trans (Nat.le_of_lt (C2.lt (.head _))) (Nat.le_of_lt (C3.lt (.head _))))
    obtain ⟨nl, hpl⟩ := hpl
    have vsE : vs = ns.map fun n => Value.ref n.ia := by
      apply List.ext_getElem?
      intro j
      cases hj : vs[j]? with
      | none =>
        have := List.getElem?_eq_none_iff.mp hj
        rw [hlen', List.length_map] at this
        rw [List.getElem?_eq_none_iff.mpr (by rw [List.length_map]; exact this)]
      | some v =>
        obtain ⟨k, hk⟩ := hP j v hj
        rw [List.getElem?_map] at hk ⊢
        obtain ⟨n0, hn0, e⟩ := Option.map_eq_some_iff.mp hk
        rw [hn0]; cases e; rfl
    have hints : IntsAre ys.toList (readyOf ns) := by
      rw [vsE] at hF
      refine paired_ready (p := p) (F := F) ?_ ?_ hF
      · intro n hn
        show (ns.any fun n' => n'.np == 0 && Value.ref n.ia == .ref n'.ia) = _
        cases hz : (n.np == 0) with
        | true => exact List.any_eq_true.mpr ⟨n, hn, by simp [hz]⟩
        | false =>
          rw [List.any_eq_false]
          intro n' hn' q
          simp only [Bool.and_eq_true, beq_iff_eq, Value.ref.injEq] at q
          rw [N.iinj hn hn' q.2, q.1] at hz
          simp at hz
      · rintro n hn y ⟨n', hn', e, t, rfl⟩
        cases e' : N.iinj hn hn' (Value.ref.inj e)
        exact ⟨t, rfl⟩
    have hDf : ∀ p ∈ fr, p.1 ≠ D := fun p hp e => by
      have := C3.get (a := p.1) (o := p.2) (.tail _ (.tail _ (.tail _ hp)))
      rw [e] at this
      exact absurd (this.symm.trans hD) (by simp)
    have C4 : Cx w mg mb s.heap s.heap.objs.size _ _ ((dx, dictOf (sEnt w t1 t2 t3 t4 (.ref d) .none vP vF) n) :: (D, listOf ys nl) :: fr) h4 := C3.call (D' := [(h₁.push { cls := .type "dict_values", data := .fields #[.ref d] }).objs.size]) (fun b o e q => hk4 b o q e) (fun a ha => by rcases List.mem_singleton.mp ha with rfl; exact ⟨_, .head _⟩) fun p hp => by
      have lt : ∀ q ∈ (dx, dictOf (sEnt w t1 t2 t3 t4 (.ref d) .none vP vF) n) :: fr, q.1 ∉ [(h₁.push { cls := .type "dict_values", data := .fields #[.ref d] }).objs.size] := fun q hq z =>
        absurd (List.mem_singleton.mp z) (Nat.ne_of_lt (C2.lt (a := q.1) (o := q.2) (.tail _ hq)))
      rcases List.mem_cons.mp hp with rfl | hp
      · exact .inl ⟨.tail _ (.tail _ (.head _)), lt _ (.head _)⟩
      · rcases List.mem_cons.mp hp with rfl | hp
        · exact .inr ⟨hpl, .inr hD⟩
        · exact .inl ⟨.tail _ (.tail _ (.tail _ hp)), lt _ (.tail _ hp)⟩
    refine n_loc C4 rfl ?_
    have neD : D ≠ dx := fun e => by rw [e] at hpl; exact absurd (hpl.symm.trans (C4.get (.head _))) (by simp)
    have dxfr : ∀ p ∈ fr, p.1 ≠ dx := fun p hp => (hdis p hp).2.1
    refine set_dict (od' := dictOf (sEnt w t1 t2 t3 t4 (.ref d) (.ref D) vP vF) n) C4 (C4.keep hx xD) (.head _) (by with_unfolding_all rfl) (by with_unfolding_all rfl) (by with_unfolding_all rfl) rfl (by show 4 ≤ 1000; decide) fun h5 C5 => ?_
    replace C5 := C5 _ (Upd.here (Upd.other neD (.tail _ (.head _)) (Upd.rest fun p hp => ⟨dxfr p hp, .tail _ (.tail _ hp)⟩)))
    refine wpAny_execs_cons (wpAny_Assign_Name (MethodCall_ (n_loc C5 rfl (me_fn C5.G (C5.keep hx xD) (C5.get (.head _)) (by with_unfolding_all rfl) (by with_unfolding_all rfl) (by with_unfolding_all rfl) ?_))))
    refine callWith_K0 C5.G.X (by with_unfolding_all rfl) ?_
    obtain ⟨oL, esL, epL, hoL, hdL, rL⟩ := id C5.ns
    have sL : 181 ≤ s.heap.objs.size := Nat.le_trans ld (Nat.le_of_lt (by obtain ⟨o, es, ho, _⟩ := Dat; exact Heap.lt_size ho))
    refine wpAny_call (find_cycle_spec (fr := (s.heap.objs.size, oL) :: fr) (outer := envOf _ _ s.heap.objs.size _ _ :: outer) C5.G hh (by show A.depth + 1 + 5 < _; exact ar193 hroom) (by show Option.map _ A.frames = _; rw [hA]; rfl) ?_ ?_ (C5.keep hx xD) (C5.get (.head _)) (N.by fun b hb o e => C5.keep e (fpD b hb)) ld hup hlen hsl ?_ ?_)
    · refine ⟨fun env he => ?_, fun p hp vs => ?_, fun p hp => ?_⟩
      · rcases List.mem_cons.mp he with rfl | he
        · exact ⟨by simp [envOf], _, .head _, rfl⟩
        · obtain ⟨a, p, hp, e⟩ := O.ok env he; exact ⟨a, p, .tail _ hp, e⟩
      · rcases List.mem_cons.mp hp with rfl | hp
        · show oL.data ≠ _
          rw [hdL]; simp
        · exact O.data p hp vs
      · rcases List.mem_cons.mp hp with rfl | hp
        · exact .head _
        · exact .tail _ (O.sub p hp)
    · intro p hp
      rcases List.mem_cons.mp hp with rfl | hp
      · exact ⟨hoL, sL⟩
      · exact ⟨C5.get (a := p.1) (o := p.2) (.tail _ (.tail _ hp)), (hfr p hp).2⟩
    · intro p hp
      rcases List.mem_cons.mp hp with rfl | hp
      · exact ⟨Nat.ne_of_gt (Heap.lt_size hx), Nat.ne_of_gt (Heap.lt_size hdx), fun q => by obtain ⟨o, ho⟩ := N.old _ q; exact absurd (Heap.lt_size ho) (Nat.lt_irrefl _)⟩
      · exact hdis p hp
    · intro h6 fr6 tk6 MK hfr6 hk6
      have frL : ∀ p ∈ fr, p.1 ≠ s.heap.objs.size := fun p hp => Nat.ne_of_lt (Heap.lt_size (hfr p hp).1)
      obtain ⟨oL', fr', rfl, ⟨sl, rfl⟩, hLn, MK'⟩ := MK.cons_inv frL
      have C6 : Cx w mg mb s.heap s.heap.objs.size _ _ ((dx, dictOf (sEnt w t1 t2 t3 t4 (.ref d) (.ref D) vP vF) n) :: (D, listOf ys nl) :: fr') h6 := C5.callL (D' := fr.map (·.1)) (fun b o e q q' => hk6 b o e (fun z => by
          rcases List.mem_cons.mp z with z | z
          · exact q' z
          · exact q z)) (fun o e => by
            have e' : some o = some oL := e.symm.trans hoL
            cases e'
            exact ⟨sl, hfr6 _ (.head _)⟩) (fun a ha => hideAll_none _ (.tail _ ha)) fun p hp => by
        rcases List.mem_cons.mp hp with rfl | hp
        · exact .inl ⟨.head _, fun q => by obtain ⟨p, hp, e⟩ := List.mem_map.mp q; exact dxfr p hp e⟩
        · rcases List.mem_cons.mp hp with rfl | hp
          · exact .inl ⟨.tail _ (.head _), fun q => by obtain ⟨p, hp, e⟩ := List.mem_map.mp q; exact hDf p hp e⟩
          · refine .inr ⟨hfr6 _ (.tail _ hp), fun e => hLn (e ▸ List.mem_map_of_mem hp), hideAll_none _ (.tail _ (MK'.1 ▸ List.mem_map_of_mem hp))⟩
      refine s_loc C6 fun h7 C7 => ?_
      refine wpAny_execs_cons (wpAny_If (wpAny_isTrue_value (n_loc C7 rfl (PyProof.Rows.truthy_none ?_))))
      refine wpAny_execs_nil (wpAny_execs_nil ?_)
      refine hN₀ _ (h h7 fr' D ys.toList n nl _ MK' (fun p hp => C7.get (.tail _ (.tail _ hp))) (fun b o e q1 q2 => C7.keep e fun z => ?_) (C7.get (.head _)) (by simpa using C7.get (.tail _ (.head _))) hints ?_ lowD)
      · rcases List.mem_cons.mp z with z | z
        · exact q2 z
        · exact q1 z
      · cases q : s.heap.get? D with
        | none => rfl
        | some o =>
          by_cases z : D ∈ ((dx, dictOf (sEnt w t1 t2 t3 t4 (.ref d) .none vP vF) n) :: fr).map (·.1)
          · rcases List.mem_cons.mp z with z | z
            · exact absurd z neD
            · obtain ⟨p, hp, e⟩ := List.mem_map.mp z; exact absurd e (hDf p hp)
          · exact absurd ((C3.keep q z).symm.trans hD) (by simp)
end
end Mine

namespace Mine
section
variable {w : World} {A : Around} {E : Value → Shared → Prop} {s : Shared}

/-- the next item of a generator, its end or its error -/
theorem next_gen {a : Addr} {g n : Nat} {gs : GenState} {R : GenEnd} {Y : Protocol} {Q : Option Value → Shared → Prop} (hh : A.handled = none)
    (hl : s.heap.NoLimit) (hroom : A.depth < recursionLimit)
    (hg : s.heap.IsGen a g) (hgs : s.gens[g]? = some gs)
    (hgo : gs.Goes (model pg w) A.in1 R Y n (.send .none) (s.setGen g .running))
    (hY : ∀ v s₁ gs', gs'.bare = true → Y (n - 1) (s.setGen g .running) v s₁ (fun r' s'' => match n with
        | 0 => False
        | m + 1 => gs'.Goes (model pg w) A.in1 R Y m r' s'') → Q (some v) (s₁.setGen g gs'))
    (hR : ∀ r s₁, R n (s.setGen g .running) r s₁ → (r = .ok (.ret .none) ∧ ∀ h', (∀ b o, s₁.heap.get? b = some o → h'.get? b = some o) → Q none { s₁.setGen g .finished with heap := h' }) ∨
      (∃ e, r = .error e ∧ wpAny (model pg w) A.in1 (Builtin.Generator.genLeft (.ref a) e : Sem Fin) (fun _ _ => False) (fun e' s' => wpAny (model pg w) A (isInstance e' (.type "StopIteration")) (fun b s'' => b = false ∧ E e' s'') E s') (s₁.setGen g .finished))) :
    wpAny (model pg w) A (pyNext (.ref a)) Q E s := by
  unfold pyNext
  refine wpAny_bind (wpAny_attempt (wpAny_callSpecial?_slot (name := Str.ofString "__next__") hg.typeIs slot_gen_next
    (wpAny_call_entry slot_gen_next hg.typeIs entry_gen_next ?_ (args_gen_next _))))
  show wpAny _ A.in1 (Builtin.Generator.genWake (.ref a) (.send .none)) _ _ s
  unfold Builtin.Generator.genWake
  refine wpAny_bind (wpAny_holding (wpAny_genNumber hg (wpAny_bind (wpAny_genState hgs ?_))))
  cases gs with
  | running => exact hgo.elim
  | finished => exact hgo.elim
  | _ =>
    refine wpAny_bind (wpAny_roomToWake hl hroom ?_)
    show wpAny _ A.in1 (.resume g (.send .none) [] _) _ _ s
    refine wpAny_resumeQ hgs hgo (fun x s₁ hx => ?_) (fun v s₁ gs' hb hv => ?_)
    · rcases hR x s₁ hx with ⟨rfl, hp⟩ | ⟨e, rfl, hp⟩
      · show wpAny _ A.in1 (newExc (.type "StopIteration") [] >>= _) _ _ _
        refine wpAny_bind ?_
        simp only [newExc, newTuple]
        refine wpAny_bind (wpAny_newObj_type ?_ (by size_fits))
        refine wpAny_bind (m := firstArgMember _ _) (wpAny_of_eq (a := Value.none) (by first | rfl | (simp only [firstArgMember]; rfl)) ?_)
        refine wpAny_newObj_type ?_ (by size_fits)
        simp only [raiseNew]
        refine wpAny_bind (wpAny_bind (wpAny_handled ?_))
        first | rw [show A.in1.handled = none from hh] | rw [hh]
        refine wpAny_throw ?_
        refine wpAny_bind (wpAny_isInstance (T := "StopIteration") (b := true) ⟨_, Heap.get?_push_size _ rfl, rfl⟩ isSubtype_stop ?_)
        exact wpAny_pure (hp _ fun b o hb => Heap.get?_push_of_some _ (Heap.get?_push_of_some _ hb))
      · show wpAny _ A.in1 (Builtin.Generator.genLeft (.ref a) e) _ _ _
        refine wpAny_mono hp (fun _ _ h => h.elim) fun e' s' h => ?_
        refine wpAny_bind (wpAny_mono h (fun b s'' hb => ?_) fun _ _ h => h)
        obtain ⟨rfl, hq⟩ := hb
        exact wpAny_throw hq
    · exact wpAny_pure ⟨v, rfl, wpAny_pure (hY v s₁ gs' hb hv)⟩

/-- list(..) of a generator: Inv says what holds when the items acc have been taken; S is the new list -/
theorem list_gen {I : Addr} {g : Nat} {Q : Value → Shared → Prop} (Inv : Nat → List Value → Shared → Prop) (n : Nat) (hn : n ≤ 1000)
    (hI : ∀ j acc s, Inv j acc s → s.heap.IsGen I g) (hlen : ∀ j acc s, Inv j acc s → acc.length + j = n)
    (hframe : ∀ j acc (s' : Shared) h', Inv j acc s' → (∀ b o, b ≠ s.heap.objs.size → s'.heap.get? b = some o → h'.get? b = some o) → Inv j acc { s' with heap := h' })
    (h0 : ∀ c, Inv n [] { s with heap := s.heap.push (listOf #[] c) })
    (hstep : ∀ j acc (s' : Shared) c, Inv j acc s' → s'.heap.get? s.heap.objs.size = some (listOf acc.toArray c) →
      wpAny (model pg w) A.in1.in1 (pyNext (.ref I)) (fun r s'' => s''.heap.get? s.heap.objs.size = some (listOf acc.toArray c) ∧ match r with
        | some v => ∃ i, j = i + 1 ∧ Inv i (acc ++ [v]) s''
        | none => Q (.ref s.heap.objs.size) s'') E s') :
    wpAny (model pg w) A (call (.type "list") [.ref I]) Q E s := by
  have loop : ∀ (j : Nat) (acc : List Value) (s' : Shared), Inv j acc s' → (∃ c, s'.heap.get? s.heap.objs.size = some (listOf acc.toArray c)) →
      codeAny (model pg w) A.in1 (.builtin "list.extend.loop" ⟨[.ref s.heap.objs.size, .ref I, .none], []⟩) (wants (fun r s₂ => r = .none ∧ Q (.ref s.heap.objs.size) s₂) E) s' := by
    intro j
    induction j with
    | zero =>
      intro acc s' hi ⟨c, hS⟩
      refine codeAny_builtin F.entry_extend_loop ?_
      rw [Around.under_plainId F.plain_extend_loop _]
      show wpAny _ A.in1.in1 (pyNext (.ref I) >>= _) _ _ s'
      refine wpAny_bind (wpAny_mono (hstep 0 acc s' c hi hS) (fun r s'' hr => ?_) fun _ _ h => h)
      obtain ⟨hS', hr⟩ := hr
      cases r with
      | none => exact wpAny_pure ⟨rfl, hr⟩
      | some v => obtain ⟨i, hi, _⟩ := hr; cases hi
    | succ j ih =>
      intro acc s' hi ⟨c, hS⟩
      refine codeAny_builtin F.entry_extend_loop ?_
      rw [Around.under_plainId F.plain_extend_loop _]
      show wpAny _ A.in1.in1 (pyNext (.ref I) >>= _) _ _ s'
      refine wpAny_bind (wpAny_mono (hstep (j + 1) acc s' c hi hS) (fun r s'' hr => ?_) fun _ _ h => h)
      obtain ⟨hS', hr⟩ := hr
      cases r with
      | none => exact wpAny_pure ⟨rfl, hr⟩
      | some v =>
        obtain ⟨i, hi', hv⟩ := hr
        cases hi'
        have hl := hlen _ _ _ hv
        rw [List.length_append, List.length_singleton] at hl
        show wpAny _ A.in1.in1 (updateSeq s.heap.objs.size (·.push v) >>= _) _ _ _
        refine wpAny_bind ?_
        refine wpAny_updateSeq hS' rfl (wpAny_pure ⟨plainId_quiet F.plain_extend_loop _, ih (acc ++ [v]) _ (hframe _ _ _ _ hv fun b o hb e => ?_) ?_⟩) (by rw [List.size_toArray, sizeLine_eq]; exact ar174 hn hl) (by show (acc.toArray.push v).size ≤ sizeLine + 1; rw [Array.size_push, List.size_toArray, sizeLine_eq]; exact ar175 hn hl)
        · exact (Heap.get?_update_other _ _ (Ne.symm hb)).trans e
        · rw [show (acc ++ [v]).toArray = acc.toArray.push v by simp]
          exact ⟨_, Heap.get?_update_self _ hS' rfl⟩
  refine callType_codes (Q₁ := fun obj s₁ => obj = .ref s.heap.objs.size ∧ s₁ = { s with heap := s.heap.push { cls := .type "list", data := .seq #[] } }) F.called_list (F.typeCall_list_1 _) F.entry_list_init
    (code_list_new _ ⟨rfl, rfl⟩) fun obj s₁ h₁ => ?_
  obtain ⟨rfl, rfl⟩ := h₁
  have hS : (s.heap.push { cls := .type "list", data := .seq #[] }).get? s.heap.objs.size = some { cls := .type "list", data := .seq #[] } := Heap.get?_push_size _ rfl
  refine ⟨⟨_, hS, rfl⟩, F.args_list_init_2 _ _, ?_⟩
  show wpAny _ A.in1.in1 (do let old ← Builtin.List.listItems (.ref s.heap.objs.size); Builtin.List.listUpdate (.ref s.heap.objs.size) (fun _ => #[]); letGo old.toList.reverse; Builtin.List.listExtendWith (.ref s.heap.objs.size) (.ref I) .none) _ _ _
  refine wpAny_bind ?_
  unfold Builtin.List.listItems
  refine wpAny_bind (wpAny_seqItems hS rfl (wpAny_pure ?_))
  show wpAny _ A.in1.in1 (updateSeq s.heap.objs.size (fun _ => #[]) >>= fun _ => letGo (#[] : Array Value).toList.reverse >>= fun _ => Builtin.List.listExtendWith (.ref s.heap.objs.size) (.ref I) .none) _ _ _
  refine wpAny_bind (wpAny_updateSeq hS rfl ?_)
  have hS₂ := Heap.get?_update_self (Obj.mapSeq (fun _ => (#[] : Array Value))) hS rfl
  refine wpAny_bind (wpAny_letGo ?_)
  have i2 := hframe _ _ _ ((s.heap.push { cls := .type "list", data := .seq #[] }).update s.heap.objs.size (Obj.mapSeq (fun _ => (#[] : Array Value)))) (h0 0) fun b o hb e => (Heap.get?_update_other _ _ (Ne.symm hb)).trans e
  have g2 := hI _ _ _ i2
  have hSI : s.heap.objs.size ≠ I := fun e => by
    obtain ⟨o, _, _, ho, hc, _⟩ := g2
    rw [← e] at ho
    have := ho.symm.trans hS₂
    cases this
    simp [Obj.mapSeq] at hc
  unfold Builtin.List.listExtendWith
  refine wpAny_bind (wpAny_typeOf g2.typeIs ?_)
  have h1 : Builtin.List.listSameRef (.ref s.heap.objs.size) (.ref I) = false := by simp [Builtin.List.listSameRef, hSI]
  have h2 : (Value.type "generator" == Value.type "list") = false := by decide
  have h3 : (Value.type "generator" == Value.type "tuple") = false := by decide
  simp only [h1, h2, h3, Bool.or_false, Bool.false_eq_true, if_false]
  refine wpAny_bind (wpAny_pyIter_gen g2 ?_)
  refine wpAny_bind (wpAny_holding ?_)
  unfold Builtin.List.listLengthHint
  refine wpAny_bind (wpAny_specialOf g2.typeIs F.gen_no_len ?_)
  show wpAny _ A.in1.in1 (specialOf (Value.ref I) (Str.ofString "__length_hint__") >>= _) _ _ _
  refine wpAny_bind (wpAny_specialOf g2.typeIs F.gen_no_hint ?_)
  refine wpAny_pure ?_
  show wpAny _ A.in1.in1 (rule "list.extend.makes-room" >>= fun _ => Builtin.List.listTouch (.ref s.heap.objs.size) >>= fun _ =>
    again (.builtin "list.extend.loop" ⟨[.ref s.heap.objs.size, .ref I, .none], []⟩)) _ _ _
  refine wpAny_bind (wpAny_rule ?_)
  refine wpAny_bind ?_
  show wpAny _ A.in1.in1 (updateSeq s.heap.objs.size (·.push .none) >>= fun _ => updateSeq s.heap.objs.size (·.pop)) _ _ _
  refine wpAny_bind (wpAny_updateSeq hS₂ rfl ?_)
  have hS₃ := Heap.get?_update_self (Obj.mapSeq (·.push Value.none)) hS₂ rfl
  refine wpAny_updateSeq (hz := by seq_fits) hS₃ rfl ?_
  have hS₄ := Heap.get?_update_self (Obj.mapSeq (·.pop)) hS₃ rfl
  refine wpAny_pure ⟨plainId_quiet F.plain_extend_loop _, loop n [] _ (hframe n [] { s with heap := (s.heap.push { cls := .type "list", data := .seq #[] }).update s.heap.objs.size (Obj.mapSeq (fun _ => (#[] : Array Value))) } _ i2 fun b o hb e => ?_) ⟨_, hS₄⟩⟩
  exact (Heap.get?_update_other _ _ (Ne.symm hb)).trans ((Heap.get?_update_other _ _ (Ne.symm hb)).trans e)
end
end Mine

namespace Mine
/-- the way back from a loop's own code -/
abbrev backK (env : Env) (K : Flow → Sem Fin) (H : Value → Sem Fin) (gd : Bool → Bool) (lv : List Value → List Value) : Result → Sem Fin := fun r =>
  ((match r with | .ok f => (.pure f : Sem Flow) | .error e => .raise e).onRaise fun (x : Value) => do
        if (← field x 1) == Value.none then unsupported "frame.own-activation:exception-without-traceback"
        setFlight x env.frame).wrap K H gd lv
abbrev notedK (env : Env) (e : Value) : Sem Fin := (do noteFrame e env; theTreesLotGoes e : Sem Unit).wrap (fun _ => .raise e) .raise id id
section
variable {w : World} {A : Around} {R : GenEnd} {Y : Protocol} {n : Nat} {s₀ : Shared} {c : Code} {fs : List Frame} {s : Shared} {env : Env}
  {K : Flow → Sem Fin} {H : Value → Sem Fin} {gd : Bool → Bool} {lv : List Value → List Value}

theorem seg_For {target iter : Expr} {body orelse : List Stmt} {pos : Pos}
    (h : wpAny (model pg w) (A.over c fs) (eval iter env) (fun x s₁ => wpAny (model pg w) (A.over c fs) (pyIter x) (fun it s₂ =>
        ∀ p, Seg (model pg w) A R Y n s₀ (.forLoop target it body orelse env) ((model pg w).den (.forLoop target it body orelse env)) (.ret (backK env K H gd lv) none (gd false) (lv []) c p [] :: fs) s₂)
      (fun x s' => Seg (model pg w) A R Y n s₀ c (H x) fs s') s₁) (fun x s' => Seg (model pg w) A R Y n s₀ c (H x) fs s') s)
    (hs : ∀ x, foldedSetIterable iter env x = pure x := by intro _; rfl) :
    Seg (model pg w) A R Y n s₀ c ((exec (.For target iter body orelse pos) env).wrap K H gd lv) fs s := by
  rw [exec_For, Sem.bind_eq_wrap', Sem.wrap_wrap]
  refine seg_wrap (wpAny_standAt ?_)
  rw [Sem.bind_eq_wrap', Sem.wrap_wrap]
  refine seg_wrap (wpAny_mono h (fun x s₁ h₁ => ?_) fun _ _ h => h)
  rw [hs x]
  show Seg _ A R Y n s₀ c ((standAt iter.pos >>= fun _ => holding [x] (pyIter x) >>= fun it => runOwn (.forLoop target it body orelse env) env).wrap K H gd lv) fs s₁
  rw [Sem.bind_eq_wrap', Sem.wrap_wrap]
  refine seg_wrap (wpAny_standAt ?_)
  rw [Sem.bind_eq_wrap', Sem.wrap_wrap]
  refine seg_wrap (wpAny_holding (wpAny_mono h₁ (fun it s₂ h₂ => ?_) fun _ _ h => h))
  exact seg_call h₂

theorem seg_forLoop {target : Expr} {it : Value} {body orelse : List Stmt}
    (h : wpAny (model pg w) (A.over (.forLoop target it body orelse env) fs) (pyNext it) (fun r s₁ => match r with
        | none => Seg (model pg w) A R Y n s₀ (.forLoop target it body orelse env) (.pure (.again (.block orelse env))) fs s₁
        | some v => wpAny (model pg w) (A.over (.forLoop target it body orelse env) fs) (assign target env v) (fun _ s₂ =>
          Seg (model pg w) A R Y n s₀ (.forLoop target it body orelse env) ((execs body env).wrap (fun f => match f with
            | .next | .cont => .pure (.again (.forLoop target it body orelse env))
            | .brk => .pure (.done .next)
            | .ret v => .pure (.done (.ret v))) (notedK env) id id) fs s₂)
          (fun x s' => Seg (model pg w) A R Y n s₀ (.forLoop target it body orelse env) (notedK env x) fs s') s₁)
      (fun x s' => Seg (model pg w) A R Y n s₀ (.forLoop target it body orelse env) (notedK env x) fs s') s)
    (ht : ∀ v, letOwnedTupleGo target it v = pure () := by intro _; rfl) :
    Seg (model pg w) A R Y n s₀ (.forLoop target it body orelse env) ((model pg w).den (.forLoop target it body orelse env)) fs s := by
  show Seg _ A R Y n s₀ _ ((forTurn target it body orelse env).onRaise (fun x => do noteFrame x env; theTreesLotGoes x)) fs s
  unfold forTurn
  have eN : ∀ x s', Seg (model pg w) A R Y n s₀ (.forLoop target it body orelse env) (notedK env x) fs s' → Seg (model pg w) A R Y n s₀ (.forLoop target it body orelse env) (((do noteFrame x env; theTreesLotGoes x : Sem Unit).bind fun _ => .raise x)) fs s' := fun x s' h => by
    rw [Sem.bind_eq_wrap]; exact h
  rw [Sem.onRaise_eq_wrap, Sem.bind_eq_wrap', Sem.wrap_wrap]
  refine seg_wrap (wpAny_standAt ?_)
  rw [Sem.bind_eq_wrap', Sem.wrap_wrap]
  refine seg_wrap (wpAny_onRaise (wpAny_mono h (fun r s₁ h₁ => ?_) fun x s' hx => wpAny_standAt (eN x s' hx)))
  cases r with
  | none => exact h₁
  | some v =>
    show Seg _ A R Y n s₀ _ ((letOwnedTupleGo target it v >>= fun _ => assign target env v >>= fun _ => execs body env >>= fun f => _).wrap _ _ _ _) fs s₁
    rw [ht v, pure_bind, Sem.bind_eq_wrap', Sem.wrap_wrap]
    refine seg_wrap (wpAny_mono h₁ (fun _ s₂ h₂ => ?_) fun x s' hx => eN x s' hx)
    rw [Sem.bind_eq_wrap', Sem.wrap_wrap]
    rw [Sem.wrap_congr (execs body env) _ _ (K' := fun f => match f with
            | .next | .cont => .pure (.again (.forLoop target it body orelse env))
            | .brk => .pure (.done .next)
            | .ret v => .pure (.done (.ret v))) (H' := notedK env)
        (fun f => by cases f <;> rfl)
        (fun e => by first | exact Sem.bind_eq_wrap _ _ | (show (do noteFrame e env; theTreesLotGoes e : Sem Unit).bind (fun _ => .raise e) = _; rw [Sem.bind_eq_wrap]))]
    exact h₂

theorem seg_block_nil (h : Seg (model pg w) A R Y n s₀ (.block [] env) (.pure (.done .next)) fs s) :
    Seg (model pg w) A R Y n s₀ (.block [] env) ((model pg w).den (.block [] env)) fs s := h

theorem entry_yf : entryFor table "proto.yield_from" = some Builtin.«proto.yield_from» := entryFor_of_fast (by kernel_rfl)
theorem no_close : typeLookup (.type "tuple_iterator") "close" = pure none := by rw [typeLookup_type, builtinLookup_eq_fast]; kernel_rfl
abbrev yfCode (it : Addr) : Code := .builtin "proto.yield_from" ⟨[.ref it, .bool false, .none], []⟩
theorem yf_den (it : Addr) : (model pg w).den (yfCode it) = Builtin.«proto.yield_from» ⟨[.ref it, .bool false, .none], []⟩ := by
  show (match entryFor table "proto.yield_from" with | some b => b ⟨[.ref it, .bool false, .none], []⟩ | none => unsupported ((withoutEnding? "proto.yield_from" "#data").getD "proto.yield_from")) = _
  rw [entry_yf]
theorem yf_quiet (it : Addr) : (yfCode it).quiet = true := Code.quiet_builtin _ (by decide +kernel)

theorem slept {M : Model} {B : Around} {E : Value → Shared → Prop} {it t : Addr} {i : Nat} {b : Bool} {Q : Unit → Shared → Prop} (hit : s.heap.IsTupleIter it t i) (h : Q () s) : wpAny M B (Builtin.Generator.sleptOver (.ref it) b) Q E s := by
  obtain ⟨o, ho, hc, hd⟩ := hit
  unfold Builtin.Generator.sleptOver
  refine wpAny_bind (wpAny_load ho ?_)
  rw [hc]
  exact wpAny_pure h

theorem seg_yf_item {it t : Addr} {i : Nat} {items : Array Value} {x : Value} (hit : s.heap.IsTupleIter it t i) (ht : s.heap.IsTuple t items) (hx : items[i]? = some x) (hfs : splitAtGen fs = none) (hfg : fs.any Frame.guarded = false)
    (h : ∀ h', h'.IsTupleIter it t (i + 1) → Heap.SameBut it s.heap h' → ∀ kap : Resume → Shared → Prop,
      (∀ s'' : Shared, s''.heap.IsTupleIter it t (i + 1) → Seg (model pg w) A R Y n s'' (yfCode it) ((model pg w).den (yfCode it)) fs s'' → kap (.send .none) s'') → Y n s₀ x { s with heap := h' } kap) :
    Seg (model pg w) A R Y (n + 1) s₀ (yfCode it) ((model pg w).den (yfCode it)) fs s := by
  rw [yf_den]
  obtain ⟨o, ho, hc, hd⟩ := id hit
  obtain ⟨ol, hol, _, nl, hdl⟩ := ht
  unfold Builtin.«proto.yield_from»
  show Seg _ A R Y (n + 1) s₀ _ (Sem.attempt (holding [Value.none] (rule "yield-from.next" >>= fun _ => callSpecial? (.ref it) "__next__" >>= fun r => _)) >>= fun r => _) fs s
  rw [Sem.bind_eq_wrap']
  refine seg_wrap (wpAny_attempt (wpAny_holding (wpAny_bind (wpAny_rule (wpAny_bind (wpAny_callSpecial?_slot (name := Str.ofString "__next__") hit.typeIs F.slot_tuple_iterator_next
    (wpAny_call_entry F.slot_tuple_iterator_next hit.typeIs F.entry_tuple_iterator_next ?_ (F.args_tuple_iterator_next_1 _))))))))
  show wpAny _ _ (field (.ref it) 0 >>= _) _ _ s
  refine wpAny_bind (wpAny_field ho hd (x := .ref t) rfl ?_)
  show wpAny _ _ (if (Value.ref t == Value.none) = true then _ else _) _ _ s
  rw [if_neg (show ¬ ((Value.ref t == Value.none) = true) from Bool.false_ne_true)]
  show wpAny _ _ (field (.ref it) 1 >>= _) _ _ s
  refine wpAny_bind (wpAny_field ho hd (x := .int i 0) rfl ?_)
  show wpAny _ _ (seqItems? (.ref t) >>= _) _ _ s
  refine wpAny_bind (wpAny_seqItems hol hdl ?_)
  simp only [Int.toNat_natCast, hx]
  refine wpAny_bind (wpAny_setField ho hd (by simp) (wpAny_pure ⟨x, rfl, ?_⟩))
  have hit' : (s.heap.update it (Obj.mapFields fun vs => vs.setIfInBounds 1 (rawInt (i + 1)))).IsTupleIter it t (i + 1) := ⟨_, Heap.get?_update_self _ ho (Obj.isFreed_of_fields (Obj.data_mapFields hd _)), (Obj.cls_mapFields ..).trans hc, by
    rw [Obj.data_mapFields hd]; simp [rawInt]⟩
  refine wpAny_pure ?_
  rw [Sem.bind_eq_wrap']
  refine seg_wrap (wpAny_typeOf (Heap.IsTupleIter.typeIs (s := { s with heap := _ }) hit') ?_)
  show Seg _ A R Y (n + 1) s₀ _ (typeLookup (.type "tuple_iterator") (Str.ofString "close") >>= _) fs _
  rw [no_close, pure_bind, pure_bind, Sem.bind_eq_wrap']
  refine seg_wrap (slept hit' ?_)
  refine seg_yield hfs rfl hfg ?_
  refine h _ hit' (Heap.SameBut.update ..) _ fun s'' hit2 hs => ?_
  show Seg _ A R Y n s'' _ (Builtin.Generator.sleptOver (.ref it) false >>= _) fs s''
  rw [Sem.bind_eq_wrap']
  refine seg_wrap (slept hit2 ?_)
  exact seg_again (yf_quiet it) hs

theorem seg_yf_end {it t : Addr} {i : Nat} {items : Array Value} (hh : (A.over (yfCode it) fs).handled = none) (hit : s.heap.IsTupleIter it t i) (ht : s.heap.IsTuple t items) (hx : items[i]? = none)
    (h : ∀ h', Heap.ExtBut it s.heap h' → Seg (model pg w) A R Y n s₀ (yfCode it) (leafOf (.ok (.ret .none))) fs { s with heap := h' }) :
    Seg (model pg w) A R Y n s₀ (yfCode it) ((model pg w).den (yfCode it)) fs s := by
  rw [yf_den]
  obtain ⟨o, ho, hc, hd⟩ := id hit
  obtain ⟨ol, hol, _, nl, hdl⟩ := ht
  unfold Builtin.«proto.yield_from»
  show Seg _ A R Y n s₀ _ (Sem.attempt (holding [Value.none] (rule "yield-from.next" >>= fun _ => callSpecial? (.ref it) "__next__" >>= fun r => _)) >>= fun r => _) fs s
  rw [Sem.bind_eq_wrap']
  refine seg_wrap (wpAny_attempt (wpAny_holding (wpAny_bind (wpAny_rule (wpAny_bind (wpAny_callSpecial?_slot (name := Str.ofString "__next__") hit.typeIs F.slot_tuple_iterator_next
    (wpAny_call_entry F.slot_tuple_iterator_next hit.typeIs F.entry_tuple_iterator_next ?_ (F.args_tuple_iterator_next_1 _))))))))
  show wpAny _ _ (field (.ref it) 0 >>= _) _ _ s
  refine wpAny_bind (wpAny_field ho hd (x := .ref t) rfl ?_)
  show wpAny _ _ (if (Value.ref t == Value.none) = true then _ else _) _ _ s
  rw [if_neg (show ¬ ((Value.ref t == Value.none) = true) from Bool.false_ne_true)]
  show wpAny _ _ (field (.ref it) 1 >>= _) _ _ s
  refine wpAny_bind (wpAny_field ho hd (x := .int i 0) rfl ?_)
  show wpAny _ _ (seqItems? (.ref t) >>= _) _ _ s
  refine wpAny_bind (wpAny_seqItems hol hdl ?_)
  simp only [Int.toNat_natCast, hx]
  refine wpAny_bind (wpAny_rule (wpAny_bind (wpAny_setField ho hd (by simp) ?_)))
  show wpAny _ _ (newExc (.type "StopIteration") [] >>= _) _ _ _
  refine wpAny_bind ?_
  simp only [newExc, newTuple]
  refine wpAny_bind (wpAny_newObj_type ?_ (by size_fits))
  refine wpAny_bind (m := firstArgMember _ _) (wpAny_of_eq (a := Value.none) (by first | rfl | (simp only [firstArgMember]; rfl)) ?_)
  refine wpAny_newObj_type ?_ (by size_fits)
  simp only [raiseNew]
  refine wpAny_bind (wpAny_handled ?_)
  rw [show (A.over (yfCode it) fs).in1.handled = none from hh]
  refine wpAny_bind (wpAny_pure (wpAny_throw ?_))
  have hex : ∀ {M : Model} {B : Around} {E' : Value → Shared → Prop} {e : Addr} {oe : Obj} {Q : Bool → Shared → Prop} {s' : Shared}, s'.heap.get? e = some oe → oe.cls = .type "StopIteration" → Q true s' → wpAny M B (Builtin.Generator.endsTheTurnAsAValue false (.ref e)) Q E' s' := by
    intro M B E' e oe Q s' he hc' hq
    unfold Builtin.Generator.endsTheTurnAsAValue Builtin.Generator.isStopAndMetaclass
    refine wpAny_bind (wpAny_bind (wpAny_typeOf (T := "StopIteration") ⟨_, he, hc'⟩ ?_))
    show wpAny _ _ (isSubtype (.type "StopIteration") (.type "StopIteration") >>= fun b => typeOf (.type "StopIteration") >>= fun c => pure (b, c)) _ _ _
    rw [isSubtype_stop, pure_bind]
    refine wpAny_bind (wpAny_of_eq (a := .type "type") rfl (wpAny_pure ?_))
    exact wpAny_pure hq
  rw [Sem.bind_eq_wrap']
  refine seg_wrap (hex (Heap.get?_push_size _ rfl) rfl ?_)
  rw [if_pos rfl, if_neg Bool.false_ne_true, Sem.bind_eq_wrap']
  refine seg_wrap (wpAny_rule ?_)
  rw [Sem.bind_eq_wrap']
  refine seg_wrap (wpAny_field (Heap.get?_push_size _ rfl) rfl (x := .none) rfl ?_)
  exact h _ (((Heap.SameBut.update ..).extBut.push _).push _)
end
end Mine

namespace Mine
section
variable {w : World} {A : Around} {R : GenEnd} {Y : Protocol} {n : Nat} {s₀ : Shared} {c : Code} {fs : List Frame} {s : Shared} {env : Env}
  {K : Flow → Sem Fin} {H : Value → Sem Fin} {gd : Bool → Bool} {lv : List Value → List Value}
theorem seg_Expr_YieldFrom {value : Expr} {ypos pos : Pos}
    (h : wpAny (model pg w) (A.over c fs) (eval value env) (fun v s' => ∃ t items, v = .ref t ∧ s'.heap.IsTuple t items ∧
        ∀ p k, k (.ok (.ret .none)) = K .next → Seg (model pg w) A R Y n s₀ (yfCode s'.heap.objs.size) ((model pg w).den (yfCode s'.heap.objs.size)) (.ret k none (gd false) (lv []) c p [] :: fs) { s' with heap := s'.heap.push { cls := .type "tuple_iterator", data := .fields #[.ref t, .int 0 0] } })
      (fun x s' => Seg (model pg w) A R Y n s₀ c (H x) fs s') s) (hi : interactive env = false := by rfl) :
    Seg (model pg w) A R Y n s₀ c ((exec (.Expr (.YieldFrom value ypos) pos) env).wrap K H gd lv) fs s := by
  rw [exec_Expr env _ pos hi rfl, arm_eval_YieldFrom]
  refine seg_at ?_
  show Seg _ A R Y n s₀ c (((eval value env >>= fun v => (standAt ypos >>= fun _ => yieldFrom env v)) >>= fun x => dropValue (.YieldFrom value ypos) pos x).wrap K H gd lv) fs s
  rw [Sem.bind_eq_wrap', Sem.bind_eq_wrap', Sem.wrap_wrap, Sem.wrap_wrap]
  refine seg_wrap (wpAny_mono h (fun v s' h' => ?_) fun _ _ x => x)
  obtain ⟨t, items, rfl, ht, hg⟩ := h'
  refine seg_at ?_
  show Seg _ A R Y n s₀ c (((typeOf (.ref t) >>= fun T => if (T == .type "coroutine") = true then _ else (holding [Value.ref t] (pyIter (.ref t)) >>= fun it => runValue (.builtin "proto.yield_from" ⟨[it, .bool false, .none], []⟩))).wrap _ _ _ _)) fs s'
  rw [Sem.bind_eq_wrap', Sem.wrap_wrap]
  refine seg_wrap (wpAny_typeOf (T := "tuple") (by obtain ⟨o, ho, hc, _⟩ := ht; exact ⟨o, ho, hc⟩) ?_)
  rw [if_neg (by decide), Sem.bind_eq_wrap', Sem.wrap_wrap]
  refine seg_wrap (wpAny_holding (wpAny_pyIter_tuple ht ?_))
  exact seg_call fun p => hg p _ rfl

end
section
variable {w : World} {mg mb : Str → Option Value} {s : Shared} {A : Around} {E : Value → Shared → Prop} {env : Env}
/-- a method called with a starred argument: the bound method is made -/
theorem StarMethod_ {o : Expr} {name : Str} {apos pos : Pos} {args : List Expr} {Q : Value → Shared → Prop}
    (h : wpAny (model pg w) A (eval o env) (fun ov s₁ => wpAny (model pg w) A (getAttr ov name true) (fun f s₂ => wpAny (model pg w) A (callWith pos f [] (backTo pos (starEach args env)) []) Q E s₂) E s₁) E s)
    (he : eval (.Call (.Attribute o name apos) args [] pos) env = (do
      let ov ← eval o env
      standAt apos.atName
      let (f, first) ← holding [ov] (do pure (← getAttr ov name true, []))
      callWith pos f first (backTo pos (starEach args env)) []) := by rfl) :
    wpAny (model pg w) A (eval (.Call (.Attribute o name apos) args [] pos) env) Q E s := by
  rw [he]
  exact wpAny_bind (wpAny_mono h (fun ov s₁ h₁ => wpAny_bind (wpAny_standAt (wpAny_bind (wpAny_holding (wpAny_bind (wpAny_mono h₁ (fun f s₂ h₂ => wpAny_pure h₂) fun _ _ x => x)))))) fun _ _ x => x)
theorem get_meth {Q : Value → Shared → Prop} {x dx fa : Addr} {name : Str} {es : List DictEntry} {n : Nat} {b : Bool} (G : Gd w mg mb s.heap) (hx : s.heap.get? x = some (instObj 137 dx)) (hdx : s.heap.get? dx = some (dictOf es n))
    (hf : findObj (Kf w) 137 (some (dictOf es n)) name = some (.bind (.builtin "function.__get__") (.ref fa))) (ht : typeIn (Kf w) (.ref fa) = some (.type "function")) (hk : findIn (Kf w) (.ref 137) "__getattr__" = some none)
    (h : Q (.ref s.heap.objs.size) { s with heap := s.heap.push (methodObj (.ref fa) (.ref x)), toks := s.toks + 1 }) : wpAny (model pg w) A (getAttr (.ref x) name b) Q E s := by
  refine get_bind G.X (⟨hx, rfl, rfl, hdx⟩ : W.InstAt s.heap x (instObj 137 dx) 137 (some (dictOf es n))) (by with_unfolding_all rfl) hf hk ?_
  refine wpAny_call (fn_get (s := { s with toks := s.toks + 1 }) G.X ht ?_)
  show wpAny _ _ (handedOut (.ref _)) _ _ _
  rw [handedOut_of rfl]; exact wpAny_pure h
theorem callWith_SM {q fa : Addr} {self : Value} {e : Expr} {p pos : Pos} {Q : Value → Shared → Prop} (hf : fnIn (Kf w) fa = true)
    (h : wpAny (model pg w) A (eval e env) (fun v s₁ => StarOf (model pg w) A E v (fun vs s₂ => MethP (Kf w) q fa self s₂.heap ∧ wpAny (model pg w) A (call (.ref q) ([] ++ vs)) Q E s₂) s₁) E s) :
    wpAny (model pg w) A (callWith pos (.ref q) [] (backTo pos (starEach [.Starred e p] env)) []) Q E s :=
  ks_call (P := fun h => MethP (Kf w) q fa self h) rfl (keeps_M hf) (ks_lone h)
theorem callWith_SM2 {q fa : Addr} {self : Value} {e : Expr} {rest : List Expr} {pos : Pos} {Q : Value → Shared → Prop} (hf : fnIn (Kf w) fa = true)
    (h : wpAny (model pg w) A (spliced (backTo pos (starEach (e :: rest) env))) (fun vs s₁ => MethP (Kf w) q fa self s₁.heap ∧ wpAny (model pg w) A (call (.ref q) ([] ++ vs)) Q E s₁) E s)
    (he : starEach (e :: rest) env = (false, eval e env) :: starEach rest env := by rfl) (hst : (backTo pos (starEach rest env)).any (·.1) = true := by rfl) :
    wpAny (model pg w) A (callWith pos (.ref q) [] (backTo pos (starEach (e :: rest) env)) []) Q E s := by
  rw [he] at h ⊢
  exact ks_call (P := fun h => MethP (Kf w) q fa self h) (by show (false || (backTo pos (starEach rest env)).any (·.1)) = true; rw [hst]; rfl) (keeps_M hf) (evalArgs_plain h)
end
/-- how the sorter goes on: the groups passed out one after the other -/
inductive Run : Ct → List Int → List (List Int) → Prop
  | stop {c : Ct} : Run c [] []
  | step {c : Ct} {rn : List Int} {gs : List (List Int)} : rn ≠ [] → rn.length ≤ 100 → (∀ k ∈ rn, k ∈ c.map (·.1)) → (∀ e ∈ c, e.2.2.length ≤ 100) → DoneOk (outF c rn, []) rn →
      Run (rn.foldl done1 (outF c rn, [])).1 (rn.foldl done1 (outF c rn, [])).2 gs → Run c rn (rn :: gs)

abbrev soOwn (d : Addr) (od : Obj) (ns : List Nd) (dx : Addr) (odx : Obj) (rl : Addr) (orl : Obj) (rest : List (Addr × Obj)) : List (Addr × Obj) := (d, od) :: (objsOf ns ++ ((dx, odx) :: (rl, orl) :: rest))
structure Gx (w : World) (mg mb : Str → Option Value) (gc : Heap) (L : Addr) (D : List Addr) (x dx d rl : Addr) (ns : List Nd) (rv : List Value) (P F : Int) (m : Str → Option Value) (rest : List (Addr × Obj)) (h : Heap) : Prop where
  ex : ∃ od odx orl, Cx w mg mb gc L D m (soOwn d od ns dx odx rl orl rest) h
  T : Srt w h x dx d rl ns rv P F
  ap : ∀ p ∈ rest, p.1 ∉ fp d ns [dx, rl]
  gx : gc.get? x = some (instObj 137 dx)
  xD : x ∉ D
section
variable {w : World} {mg mb : Str → Option Value} {gc : Heap} {L : Addr} {D : List Addr} {x dx d rl : Addr} {ns ns' : List Nd} {rv rv' : List Value} {P F P' F' : Int} {m m' : Str → Option Value} {rest rest' : List (Addr × Obj)} {h h' : Heap}
  {od odx orl : Obj}
theorem so_dx : (dx, odx) ∈ soOwn d od ns dx odx rl orl rest := .tail _ (List.mem_append_right _ (.head _))
theorem so_rl : (rl, orl) ∈ soOwn d od ns dx odx rl orl rest := .tail _ (List.mem_append_right _ (.tail _ (.head _)))
theorem so_rest {p : Addr × Obj} (hp : p ∈ rest) : p ∈ soOwn d od ns dx odx rl orl rest := .tail _ (List.mem_append_right _ (.tail _ (.tail _ hp)))
theorem so_upd {pre post : List (Addr × Obj)} {a : Addr} {o o' : Obj} (hap : a ∉ fp d ns [dx, rl]) (h1 : ∀ p ∈ pre, p.1 ≠ a) (h2 : ∀ p ∈ post, p.1 ≠ a) : Upd (soOwn d od ns dx odx rl orl (pre ++ (a, o) :: post)) a o' (soOwn d od ns dx odx rl orl (pre ++ (a, o') :: post)) := fun p hp => by
  have out : ∀ b ∈ fp d ns [dx, rl], b ≠ a := fun b hb e => hap (e ▸ hb)
  rcases List.mem_cons.mp hp with rfl | hp
  · exact .inr ⟨out _ (.head _), .head _⟩
  · rcases List.mem_append.mp hp with hp | hp
    · exact .inr ⟨out _ (.tail _ (List.mem_append_left _ (List.mem_map_of_mem hp))), .tail _ (List.mem_append_left _ hp)⟩
    · rcases List.mem_cons.mp hp with rfl | hp
      · exact .inr ⟨out _ (.tail _ (List.mem_append_right _ (.head _))), so_dx⟩
      · rcases List.mem_cons.mp hp with rfl | hp
        · exact .inr ⟨out _ (.tail _ (List.mem_append_right _ (.tail _ (.head _)))), so_rl⟩
        · rcases List.mem_append.mp hp with hp | hp
          · exact .inr ⟨h1 p hp, so_rest (List.mem_append_left _ hp)⟩
          · rcases List.mem_cons.mp hp with rfl | hp
            · exact .inl rfl
            · exact .inr ⟨h2 p hp, so_rest (List.mem_append_right _ (.tail _ hp))⟩
/-- behind a change of rest alone -/
theorem Cx.chRest (C : Cx w mg mb gc L D m (soOwn d od ns dx odx rl orl rest) h) {a : Addr} {o : Obj} (ha : (a, o) ∈ rest) (hap : a ∉ fp d ns [dx, rl]) (hk : ∀ b o, b ≠ a → h.get? b = some o → h'.get? b = some o)
    (hr : ∀ p ∈ rest', (p ∈ rest ∧ p.1 ≠ a) ∨ (p.1 = a ∧ h'.get? p.1 = some p.2)) : Cx w mg mb gc L D m (soOwn d od ns dx odx rl orl rest') h' :=
  C.call (D' := [a]) (fun b o e q => hk b o (by simpa using q) e) (fun b hb => by rcases List.mem_singleton.mp hb with rfl; exact ⟨o, so_rest ha⟩) fun p hp => by
    have out : ∀ b ∈ fp d ns [dx, rl], b ∉ [a] := fun b hb e => hap (List.mem_singleton.mp e ▸ hb)
    rcases List.mem_cons.mp hp with rfl | hp
    · exact .inl ⟨.head _, out _ (.head _)⟩
    · rcases List.mem_append.mp hp with hp | hp
      · exact .inl ⟨.tail _ (List.mem_append_left _ hp), out _ (.tail _ (List.mem_append_left _ (List.mem_map_of_mem hp)))⟩
      · rcases List.mem_cons.mp hp with rfl | hp
        · exact .inl ⟨so_dx, out _ (.tail _ (List.mem_append_right _ (.head _)))⟩
        · rcases List.mem_cons.mp hp with rfl | hp
          · exact .inl ⟨so_rl, out _ (.tail _ (List.mem_append_right _ (.tail _ (.head _))))⟩
          · rcases hr p hp with ⟨h1, h2⟩ | ⟨h1, h2⟩
            · exact .inl ⟨so_rest h1, by simpa using h2⟩
            · exact .inr ⟨h2, .inl (by rw [h1]; exact .head _)⟩
theorem Gx.move (X : Gx w mg mb gc L D x dx d rl ns rv P F m rest h) (C : Cx w mg mb gc L D m (soOwn d od ns dx odx rl orl rest) h) (C' : Cx w mg mb gc L D m' (soOwn d od ns dx odx rl orl rest') h')
    (ap' : ∀ p ∈ rest', p.1 ∉ fp d ns [dx, rl]) : Gx w mg mb gc L D x dx d rl ns rv P F m' rest' h' where
  ex := ⟨od, odx, orl, C'⟩
  T := by
    obtain ⟨hx, ⟨t1, t2, t3, t4, tP, tF, n1, hdx⟩, ⟨n2, hrl⟩, N, ld, ldx, lrl, ne, nda, nla⟩ := X.T
    refine ⟨C'.keep X.gx X.xD, ⟨t1, t2, t3, t4, tP, tF, n1, ?_⟩, ⟨n2, ?_⟩, N.cx C C', ld, ldx, lrl, ne, nda, nla⟩
    · rw [← hdx, C.get so_dx]; exact C'.get so_dx
    · rw [← hrl, C.get so_rl]; exact C'.get so_rl
  ap := ap'
  gx := X.gx
  xD := X.xD
theorem Gx.call (X : Gx w mg mb gc L D x dx d rl ns rv P F m rest h) (T' : Srt w h' x dx d rl ns' rv' P' F') (had : (objsOf ns').map (·.1) = (objsOf ns).map (·.1))
    (hk : ∀ b o, h.get? b = some o → b ∉ fp d ns [dx, rl] → h'.get? b = some o) (hr : ∀ p ∈ rest', p ∈ rest ∨ (h'.get? p.1 = some p.2 ∧ h.get? p.1 = none)) : Gx w mg mb gc L D x dx d rl ns' rv' P' F' m rest' h' where
  ex := by
    obtain ⟨od, odx, orl, C⟩ := X.ex
    obtain ⟨hx, ⟨t1, t2, t3, t4, tP, tF, n1, hdx⟩, ⟨n2, hrl⟩, N, ld, ldx, lrl, ne, nda, nla⟩ := T'
    obtain ⟨od', es, ep, hod, r⟩ := id N.dict
    refine ⟨od', dictOf (sEnt w t1 t2 t3 t4 (.ref d) (.ref rl) (.int P' tP) (.int F' tF)) n1, listOf rv'.toArray n2, C.call (D' := fp d ns [dx, rl]) hk (fun a ha => ?_) fun p hp => ?_⟩
    · rcases List.mem_cons.mp ha with rfl | ha
      · exact ⟨_, .head _⟩
      · rcases List.mem_append.mp ha with ha | ha
        · obtain ⟨p, hp, rfl⟩ := List.mem_map.mp ha
          exact ⟨p.2, .tail _ (List.mem_append_left _ hp)⟩
        · simp only [List.mem_cons, List.not_mem_nil, or_false] at ha
          rcases ha with rfl | rfl
          · exact ⟨_, so_dx⟩
          · exact ⟨_, so_rl⟩
    · rcases List.mem_cons.mp hp with rfl | hp
      · exact .inr ⟨hod, .inl (.head _)⟩
      · rcases List.mem_append.mp hp with hp | hp
        · refine .inr ⟨?_, .inl (.tail _ (List.mem_append_left _ (had ▸ List.mem_map_of_mem hp)))⟩
          obtain ⟨n, hn, rfl | rfl | rfl⟩ := mem_objs hp
          · exact N.info n hn
          · exact N.lst n hn
          · exact N.dd n hn
        · rcases List.mem_cons.mp hp with rfl | hp
          · exact .inr ⟨hdx, .inl (.tail _ (List.mem_append_right _ (.head _)))⟩
          · rcases List.mem_cons.mp hp with rfl | hp
            · exact .inr ⟨hrl, .inl (.tail _ (List.mem_append_right _ (.tail _ (.head _))))⟩
            · rcases hr p hp with hp | hp
              · exact .inl ⟨so_rest hp, X.ap p hp⟩
              · exact .inr ⟨hp.1, .inr hp.2⟩
  T := T'
  ap := fun p hp => by
    have z : p.1 ∉ fp d ns [dx, rl] := by
      rcases hr p hp with hp | hp
      · exact X.ap p hp
      · intro q
        obtain ⟨hx, ⟨t1, t2, t3, t4, tP, tF, n1, hdx⟩, ⟨n2, hrl⟩, N, _⟩ := X.T
        rcases List.mem_cons.mp q with e | q
        · obtain ⟨_, _, _, ho, _⟩ := N.dict
          rw [← e, hp.2] at ho; cases ho
        · rcases List.mem_append.mp q with q | q
          · obtain ⟨o, ho⟩ := N.old p.1 (.tail _ (List.mem_append_left _ q))
            rw [hp.2] at ho; cases ho
          · simp only [List.mem_cons, List.not_mem_nil, or_false] at q
            rcases q with e | e
            · rw [← e, hp.2] at hdx; cases hdx
            · rw [← e, hp.2] at hrl; cases hrl
    unfold fp at z ⊢
    rw [had]; exact z
  gx := X.gx
  xD := X.xD
end
noncomputable def soCode (w : World) (L : Addr) : Code := match nthS (bodyOf w 134) 1 with | .While t b o _ => .whileLoop t b o (envAt w 134 L) | _ => .block [] (envAt w 134 L)
/-- what holds of the state whenever the generator hands over -/
def soOk (gc : Heap) (D Gu : List Addr) (fr : List (Addr × Obj)) (s₀ s : Shared) : Prop :=
  (∃ h tk, s = { s₀ with heap := h, toks := tk }) ∧ (∀ b ∈ Gu, ∀ o, s₀.heap.get? b = some o → s.heap.get? b = some o) ∧ (∃ fr', Marked fr fr' ∧ ∀ p ∈ fr', s.heap.get? p.1 = some p.2) ∧ ∀ b o, gc.get? b = some o → b ∉ D → s.heap.get? b = some o
def soY (gc : Heap) (D Gu : List Addr) (S : Addr) (fr : List (Addr × Obj)) (ord : List Int) : Protocol := fun n s₀ v s kap =>
  (∃ k t, v = .int k t ∧ ord[ord.length - 1 - n]? = some k) ∧ soOk gc D Gu fr s₀ s ∧ ∀ s'' : Shared, (∀ b o, b ≠ S → s.heap.get? b = some o → s''.heap.get? b = some o) → (∃ o, s''.heap.get? S = some o) → kap (.send .none) s''
def soR (gc : Heap) (D Gu : List Addr) (fr : List (Addr × Obj)) : GenEnd := fun n s₀ r s => r = .ok (.ret .none) ∧ n = 0 ∧ soOk gc D Gu fr s₀ s
section
variable {w : World} {mg mb : Str → Option Value} {gc : Heap} {L : Addr} {D Gu : List Addr} {S x dx d rl : Addr} {fr : List (Addr × Obj)} {A : Around} {outer : List Env} {ord : List Int}
theorem so_ok {ns : List Nd} {rv : List Value} {P F : Int} {m : Str → Option Value} {gu more fr' : List (Addr × Obj)} {s₀ s : Shared} {h : Heap} {tk : Tok} (X : Gx w mg mb gc L D x dx d rl ns rv P F m (gu ++ (more ++ fr')) h)
    (hg : gu.map (·.1) = Gu) (hg0 : ∀ p ∈ gu, s₀.heap.get? p.1 = some p.2) (MK : Marked fr fr') (e : ∃ h' tk', s = { s₀ with heap := h', toks := tk' }) : soOk gc D Gu fr s₀ { s with heap := h, toks := tk } := by
  obtain ⟨od, odx, orl, C⟩ := X.ex
  obtain ⟨h1, tk1, rfl⟩ := e
  refine ⟨⟨h, tk, rfl⟩, fun b hb o eo => ?_, ⟨fr', MK, fun p hp => C.get (a := p.1) (o := p.2) (so_rest (List.mem_append_right _ (List.mem_append_right _ hp)))⟩, fun b o eb hD => C.keep eb hD⟩
  rw [← hg] at hb
  obtain ⟨p, hp, rfl⟩ := List.mem_map.mp hb
  have := (hg0 p hp).symm.trans eo
  cases this
  exact C.get (a := p.1) (o := p.2) (so_rest (List.mem_append_left _ hp))

theorem so_while (hh : A.handled = none) (hroom : A.depth + 8 < recursionLimit) (hGu : S ∈ Gu) (hfS : ∀ p ∈ fr, p.1 ≠ S) {k : Result → Sem Fin} {l : List Value} {p : Pos} (hk : k (.ok .next) = .pure (.done (.ret .none))) :
    ∀ (gs : List (List Int)) (ns : List Nd) (rv : List Value) (rn : List Int) (P : Int) (m : Str → Option Value) (gu fr' : List (Addr × Obj)) (n : Nat) (s₀ s : Shared),
      Run (ct ns) rn gs → IntsAre rv rn → Gx w mg mb gc L D x dx d rl ns rv P P m (gu ++ ([] ++ fr')) s.heap → Marked fr fr' → gu.map (·.1) = Gu → (∀ p ∈ gu, s₀.heap.get? p.1 = some p.2) → m "self" = some (.ref x) →
      n = gs.flatten.length → gs.flatten = ord.drop (ord.length - n) → n ≤ ord.length → (∃ h' tk', s = { s₀ with heap := h', toks := tk' }) →
      Seg (model pg w) A (soR gc D Gu fr) (soY gc D Gu S fr ord) n s₀ (soCode w L) ((model pg w).den (soCode w L)) [.ret k none false l (.func (bodyOf w 134) (envAt w 134 L)) p []] s := by
  intro gs
  induction gs with
  | nil =>
    intro ns rv rn P m gu fr' n s₀ s hrun hi X MK hg hg0 hself hn hord hle hs
    cases hrun
    cases hi
    obtain ⟨od, odx, orl, C⟩ := id X.ex
    obtain ⟨hx, ⟨t1, t2, t3, t4, tP, tF, n1, hdx⟩, ⟨n2, hrl⟩, N, ld, ldx, lrl, ne, nda, nla⟩ := id X.T
    show Seg _ _ _ _ _ _ (Code.whileLoop _ _ _ (envOf _ _ _ _ _)) _ _ _
    refine seg_whileLoop (wpAny_isTrue_value (MethodCall_ (n_loc C hself (me_fn C.G hx hdx (by with_unfolding_all rfl) (by with_unfolding_all rfl) (by with_unfolding_all rfl) ?_))))
    refine callWith_K0 C.G.X (by with_unfolding_all rfl) (wpAny_call (is_active_spec C.G (by show A.depth + 1 + 0 < _; exact ar128 hroom) hx hdx hrl (by decide) fun h1 tk1 hk1 => ?_))
    refine wpAny_truthy_bool ?_
    rw [if_neg (by simp)]
    refine seg_execs_nil (seg_leaf (.ok .next) ?_)
    rw [hk]
    exact seg_end (.ok (.ret .none)) ⟨rfl, hn, so_ok (more := []) (X.move C (C.call0 hk1) X.ap) hg hg0 MK hs⟩
  | cons g gs ih =>
    intro ns rv rn P m gu fr' n s₀ s hrun hi X MK hg hg0 hself hn hord hle hs
    cases hrun with
    | step hne hl100 hmem hsc hok hrun =>
    obtain ⟨od, odx, orl, C⟩ := id X.ex
    obtain ⟨hx, ⟨t1, t2, t3, t4, tP, tF, n1, hdx⟩, ⟨n2, hrl⟩, N, ld, ldx, lrl, ne, nda, nla⟩ := id X.T
    have hrvl : rv.length = g.length := hi.length
    show Seg _ _ _ _ _ _ (Code.whileLoop _ _ _ (envOf _ _ _ _ _)) _ _ _
    refine seg_whileLoop (wpAny_isTrue_value (MethodCall_ (n_loc C hself (me_fn C.G hx hdx (by with_unfolding_all rfl) (by with_unfolding_all rfl) (by with_unfolding_all rfl) ?_))))
    refine callWith_K0 C.G.X (by with_unfolding_all rfl) (wpAny_call (is_active_spec C.G (by show A.depth + 1 + 0 < _; exact ar128 hroom) hx hdx hrl (by rw [List.size_toArray]; exact ar129 hl100 hrvl) fun h1 tk1 hk1 => ?_))
    refine wpAny_truthy_bool ?_
    have hrv : rv ≠ [] := fun e => hne (by cases g with | nil => rfl | cons a b => rw [e] at hrvl; cases hrvl)
    rw [if_pos (by simp [hrv])]
    have C1 := C.call0 hk1
    have X1 := X.move C C1 X.ap
    refine seg_execs_cons (seg_wrap (wpAny_Assign_Name (MethodCall_ (n_loc C1 hself (me_fn C1.G X1.T.hx (hk1 _ _ hdx) (by with_unfolding_all rfl) (by with_unfolding_all rfl) (by with_unfolding_all rfl) ?_)))))
    refine callWith_K0 C1.G.X (by with_unfolding_all rfl) (wpAny_call (get_ready_spec C1.G hh (by show A.depth + 1 + 0 + 5 < _; exact ar130 hroom) X1.T hi (by rw [keys_ct] at hmem; exact hmem) (by exact ar53 hl100) fun h2 ns2 tup tk2 T2 hct2 had2 htup htn hk2 => ?_))
    have X2 : Gx w mg mb gc L D x dx d rl ns2 [] (P + g.length) P m (gu ++ ([(tup, tupOf rv)] ++ fr')) h2 := X1.call T2 had2 hk2 fun q hq => by
      rcases List.mem_append.mp hq with hq | hq
      · exact .inl (List.mem_append_left _ hq)
      · rcases List.mem_cons.mp hq with rfl | hq
        · exact .inr ⟨htup, htn⟩
        · exact .inl (List.mem_append_right _ hq)
    obtain ⟨od2, odx2, orl2, C2⟩ := id X2.ex
    refine s_loc C2 fun h3 C3 => ?_
    have X3 := X2.move C2 C3 X2.ap
    have tupm : ∀ {od ns odx orl} {gu l : List (Addr × Obj)}, (tup, tupOf rv) ∈ soOwn d od ns dx odx rl orl (gu ++ ((tup, tupOf rv) :: l)) := so_rest (List.mem_append_right _ (.head _))
    refine seg_execs_cons (seg_Expr_YieldFrom (n_loc C3 rfl ⟨tup, _, rfl, ⟨_, C3.get tupm, rfl, _, rfl⟩, fun p1 k1 hk1' => ?_⟩))
    have Sold : ∃ o, s.heap.get? S = some o := by
      rw [← hg] at hGu
      obtain ⟨q, hq, rfl⟩ := List.mem_map.mp hGu
      exact ⟨_, C.get (a := q.1) (o := q.2) (so_rest (List.mem_append_left _ hq))⟩
    have tupS : tup ≠ S := fun e => by
      obtain ⟨o, ho⟩ := Sold
      rw [e, hk1 _ _ ho] at htn; cases htn
    have itS : h3.objs.size ≠ S := fun e => by
      rw [← hg] at hGu
      obtain ⟨q, hq, e'⟩ := List.mem_map.mp hGu
      have := C3.lt (a := q.1) (o := q.2) (so_rest (List.mem_append_left _ hq))
      rw [e', ← e] at this
      exact Nat.lt_irrefl _ this
    have frS : ∀ q ∈ fr', q.1 ≠ S := fun q hq => by
      have : q.1 ∈ fr.map (·.1) := MK.1 ▸ List.mem_map_of_mem hq
      obtain ⟨q', hq', e⟩ := List.mem_map.mp this
      rw [← e]; exact hfS q' hq'
    have ordx : ∀ i k, g[i]? = some k → ord[ord.length - n + i]? = some k := fun i k e => by
      have hlt := (List.getElem?_eq_some_iff.mp e).1
      have := congrArg (fun l => l[i]?) hord
      simp only [List.flatten_cons, List.getElem?_drop] at this
      rw [← this, List.getElem?_append_left hlt]; exact e
    have hn' : n = g.length + gs.flatten.length := by rw [hn, List.flatten_cons, List.length_append]
    have ne_it : ∀ q ∈ gu ++ ([(tup, tupOf rv)] ++ fr'), q.1 ≠ h3.objs.size := fun q hq => Nat.ne_of_lt (C3.lt (a := q.1) (o := q.2) (so_rest hq))
    have guit : ∀ a ∈ Gu, a ≠ h3.objs.size := fun a ha => by
      rw [← hg] at ha
      obtain ⟨q, hq, rfl⟩ := List.mem_map.mp ha
      exact ne_it q (List.mem_append_left _ hq)
    have tupit : tup ≠ h3.objs.size := ne_it (tup, tupOf rv) (List.mem_append_right _ (.head _))
    have frit : ∀ q ∈ fr', q.1 ≠ h3.objs.size := fun q hq => ne_it q (List.mem_append_right _ (.tail _ hq))
    have C4 := C3.push { cls := .type "tuple_iterator", data := .fields #[.ref tup, .int 0 0] }
    have itfp : h3.objs.size ∉ fp d ns2 [dx, rl] := fun q => by
      obtain ⟨hx, ⟨t1, t2, t3, t4, tP, tF, n1, hdx⟩, ⟨n2, hrl⟩, N, _⟩ := X3.T
      rcases List.mem_cons.mp q with e | q
      · obtain ⟨_, _, _, ho, _⟩ := N.dict
        exact absurd e (Nat.ne_of_gt (Heap.lt_size ho))
      · rcases List.mem_append.mp q with q | q
        · obtain ⟨o, ho⟩ := N.old _ (.tail _ (List.mem_append_left _ q))
          exact absurd (Heap.lt_size ho) (Nat.lt_irrefl _)
        · simp only [List.mem_cons, List.not_mem_nil, or_false] at q
          rcases q with e | e
          · exact absurd e (Nat.ne_of_gt (Heap.lt_size hdx))
          · exact absurd e (Nat.ne_of_gt (Heap.lt_size hrl))
    have X4 : Gx w mg mb gc L D x dx d rl ns2 [] (P + g.length) P _ (gu ++ ([(tup, tupOf rv), (h3.objs.size, { cls := .type "tuple_iterator", data := .fields #[.ref tup, .int 0 0] })] ++ fr')) _ := X3.move C3 (C4.sub (own' := soOwn d od2 ns2 dx odx2 rl orl2 (gu ++ ([(tup, tupOf rv), (h3.objs.size, { cls := .type "tuple_iterator", data := .fields #[.ref tup, .int 0 0] })] ++ fr'))) fun q hq => by
        simp only [soOwn, List.mem_cons, List.mem_append, List.not_mem_nil, or_false] at hq ⊢
        rcases hq with h | h | h | h | h | (h | h) | h
        all_goals simp [h]) fun q hq => by
        rcases List.mem_append.mp hq with hq | hq
        · exact X3.ap q (List.mem_append_left _ hq)
        · rcases List.mem_cons.mp hq with rfl | hq
          · exact X3.ap (tup, tupOf rv) (List.mem_append_right _ (.head _))
          · rcases List.mem_cons.mp hq with rfl | hq
            · exact itfp
            · exact X3.ap q (List.mem_append_right _ (.tail _ hq))
    generalize hit0 : h3.objs.size = it at itS guit tupit frit X4 ⊢
    have inner : ∀ (j i : Nat) (gu : List (Addr × Obj)) (s₀ s : Shared) (m : Str → Option Value) (oi : Obj), i + j = rv.length → Gx w mg mb gc L D x dx d rl ns2 [] (P + g.length) P m (gu ++ ([(tup, tupOf rv), (it, oi)] ++ fr')) s.heap →
        oi.cls = .type "tuple_iterator" → oi.data = .fields #[.ref tup, .int (i : Nat) 0] → gu.map (·.1) = Gu → (∀ p ∈ gu, s₀.heap.get? p.1 = some p.2) → m "self" = some (.ref x) → m "node_group" = some (.ref tup) → (∃ h' tk', s = { s₀ with heap := h', toks := tk' }) →
        Seg (model pg w) A (soR gc D Gu fr) (soY gc D Gu S fr ord) (j + gs.flatten.length) s₀ (yfCode it) ((model pg w).den (yfCode it)) [.ret k1 none false [] (soCode w L) p1 [], .ret k none false l (.func (bodyOf w 134) (envAt w 134 L)) p []] s := by
      intro j
      induction j with
      | zero =>
        intro i gu s₀ s m oi hij X hc hd hg hg0 hself hng hs
        obtain ⟨od, odx, orl, C⟩ := id X.ex
        have itm' : ∀ {oi}, (it, oi) ∈ gu ++ ([(tup, tupOf rv), (it, oi)] ++ fr') := List.mem_append_right _ (.tail _ (.head _))
        have itm : (it, oi) ∈ soOwn d od ns2 dx odx rl orl (gu ++ ([(tup, tupOf rv), (it, oi)] ++ fr')) := so_rest itm'
        have hit : s.heap.IsTupleIter it tup i := ⟨oi, C.get itm, hc, hd⟩
        have htt : s.heap.IsTuple tup rv.toArray := ⟨_, C.get tupm, rfl, _, rfl⟩
        have hv : rv[i]? = none := List.getElem?_eq_none_iff.mpr (by exact ar131 hij)
        refine seg_yf_end (by show A.handled = none; exact hh) hit htt (by simpa using hv) fun h4 ext => ?_
        have guit' : ∀ q ∈ gu, q.1 ≠ it := fun q hq => guit _ (hg ▸ List.mem_map_of_mem hq)
        have C4 : Cx w mg mb gc L D m (soOwn d od ns2 dx odx rl orl (gu ++ ([(tup, tupOf rv)] ++ fr'))) h4 := C.chRest itm' (X.ap (it, oi) itm') (fun b o hb e => ext b o hb e) fun q hq => by
          rcases List.mem_append.mp hq with hq | hq
          · exact .inl ⟨List.mem_append_left _ hq, guit' q hq⟩
          · rcases List.mem_cons.mp hq with rfl | hq
            · exact .inl ⟨List.mem_append_right _ (.head _), tupit⟩
            · exact .inl ⟨List.mem_append_right _ (.tail _ (.tail _ hq)), frit q hq⟩
        have X4 := X.move C C4 fun q hq => by
          rcases List.mem_append.mp hq with hq | hq
          · exact X.ap q (List.mem_append_left _ hq)
          · rcases List.mem_cons.mp hq with rfl | hq
            · exact X.ap (tup, tupOf rv) (List.mem_append_right _ (.head _))
            · exact X.ap q (List.mem_append_right _ (.tail _ (.tail _ hq)))
        refine seg_leaf (.ok (.ret .none)) ?_
        rw [hk1']
        obtain ⟨hx4, ⟨t1, t2, t3, t4, tP, tF, n1, hdx4⟩, _⟩ := id X4.T
        refine seg_execs_cons (seg_wrap (wpAny_Expr_any (StarMethod_ (n_loc C4 hself (get_meth (fa := 120) C4.G hx4 hdx4 (by with_unfolding_all rfl) (by with_unfolding_all rfl) (by with_unfolding_all rfl) ?_))) (by rfl) (by rfl)))
        have C4' := C4.push (methodObj (.ref 120) (.ref x))
        refine callWith_SM (fa := 120) (self := .ref x) (by with_unfolding_all rfl) (n_loc C4' hng (star_seq (ws := rv) C4'.fr C4'.nw (.tail _ tupm) rfl rfl (.inr rfl) (by simp) (by rw [List.size_toArray, sizeLine_eq]; exact ar132 hl100 hrvl) fun h5 F5 N5 => ?_))
        have C5' := C4'.of F5 N5
        have C5 := C5'.sub fun q hq => List.mem_cons_of_mem _ hq
        have X5 := X4.move C4 C5 X4.ap
        refine ⟨⟨C5'.get (.head _), C5'.G.X⟩, wpAny_call (method_call (C5'.get (.head _)) (done_spec C5.G hh (by show A.depth + 1 + 0 + 5 < _; exact ar130 hroom) X5.T .nil hi (by exact ar133 hl100) (by decide) ?_ (by rw [hct2]; exact hok) fun h6 ns6 rv6 tk6 T6 hiv6 hct6 had6 hk6 => ?_))⟩
        · intro n0 hn0
          have : (n0.k, n0.np, n0.sn) ∈ outF (ct ns) g := hct2 ▸ mem_ct hn0
          unfold outF at this
          obtain ⟨e, he, e'⟩ := List.mem_map.mp this
          have hl := hsc e he
          have : n0.sn = e.2.2 := by
            by_cases q : e.1 ∈ g
            · rw [if_pos q] at e'; exact (congrArg (fun z => z.2.2) e').symm
            · rw [if_neg q] at e'; exact (congrArg (fun z => z.2.2) e').symm
          rw [this]; exact hl
        have X6 : Gx w mg mb gc L D x dx d rl ns6 rv6 (P + g.length) (P + g.length) m (gu ++ ([] ++ fr')) h6 := X5.call T6 had6 hk6 fun q hq => by
          rcases List.mem_append.mp hq with hq | hq
          · exact .inl (List.mem_append_left _ hq)
          · exact .inl (List.mem_append_right _ (.tail _ hq))
        refine seg_execs_nil (seg_again (by rfl) ?_)
        rw [hct2] at hiv6 hct6
        refine ih ns6 rv6 _ (P + g.length) m gu fr' _ s₀ _ (by rw [hct6]; exact hrun) hiv6 X6 MK hg hg0 hself (by simp) ?_ (by exact ar134 hle hn') ?_
        · have := congrArg (fun l => l.drop g.length) hord
          simp only [List.flatten_cons, List.drop_left, List.drop_drop] at this
          refine this.trans ?_
          congr 1
          exact ar135 hle hn'
        · obtain ⟨h', tk', rfl⟩ := hs
          exact ⟨_, _, rfl⟩
      | succ j ihj =>
        intro i gu s₀ s m oi hij X hc hd hg hg0 hself hng hs
        obtain ⟨od, odx, orl, C⟩ := id X.ex
        have itm' : ∀ {oi}, (it, oi) ∈ gu ++ ([(tup, tupOf rv), (it, oi)] ++ fr') := List.mem_append_right _ (.tail _ (.head _))
        have itm : (it, oi) ∈ soOwn d od ns2 dx odx rl orl (gu ++ ([(tup, tupOf rv), (it, oi)] ++ fr')) := so_rest itm'
        have hit : s.heap.IsTupleIter it tup i := ⟨oi, C.get itm, hc, hd⟩
        have htt : s.heap.IsTuple tup rv.toArray := ⟨_, C.get tupm, rfl, _, rfl⟩
        have hlt : i < rv.length := by exact ar136 hij
        obtain ⟨v, hv⟩ : ∃ v, rv[i]? = some v := ⟨_, List.getElem?_eq_getElem hlt⟩
        obtain ⟨kk, tv, hkk, rfl⟩ := ia_get hi hv
        rw [show j + 1 + gs.flatten.length = (j + gs.flatten.length) + 1 by exact ar137]
        refine seg_yf_item hit htt (by simpa using hv) rfl rfl fun h4 hit4 sb kap hkap => ?_
        obtain ⟨oi4, ho4, hc4, hd4⟩ := hit4
        have guit' : ∀ q ∈ gu, q.1 ≠ it := fun q hq => guit _ (hg ▸ List.mem_map_of_mem hq)
        have apS : ∀ q ∈ gu ++ ([(tup, tupOf rv), (it, oi4)] ++ fr'), q.1 ∉ fp d ns2 [dx, rl] := fun q hq => by
          rcases List.mem_append.mp hq with hq | hq
          · exact X.ap q (List.mem_append_left _ hq)
          · rcases List.mem_cons.mp hq with rfl | hq
            · exact X.ap (tup, tupOf rv) (List.mem_append_right _ (.head _))
            · rcases List.mem_cons.mp hq with rfl | hq
              · exact X.ap (it, oi) itm'
              · exact X.ap q (List.mem_append_right _ (.tail _ (.tail _ hq)))
        have C4 : Cx w mg mb gc L D m (soOwn d od ns2 dx odx rl orl (gu ++ ([(tup, tupOf rv), (it, oi4)] ++ fr'))) h4 := C.chRest itm' (X.ap (it, oi) itm') (fun b o hb e => sb.extBut b o hb e) fun q hq => by
          rcases List.mem_append.mp hq with hq | hq
          · exact .inl ⟨List.mem_append_left _ hq, guit' q hq⟩
          · rcases List.mem_cons.mp hq with rfl | hq
            · exact .inl ⟨List.mem_append_right _ (.head _), tupit⟩
            · rcases List.mem_cons.mp hq with rfl | hq
              · exact .inr ⟨rfl, ho4⟩
              · exact .inl ⟨List.mem_append_right _ (.tail _ (.tail _ hq)), frit q hq⟩
        have X4 := X.move C C4 apS
        refine ⟨⟨kk, tv, rfl, ?_⟩, so_ok X4 hg hg0 MK hs, fun s'' hkeep hS => ?_⟩
        · rw [← ordx i kk hkk]
          congr 1
          exact ar138 hle hrvl hn' hij
        obtain ⟨oS, hS⟩ := hS
        refine hkap s'' ⟨oi4, hkeep _ _ itS ho4, hc4, hd4⟩ ?_
        have hSg : S ∈ gu.map (·.1) := by rw [hg]; exact hGu
        obtain ⟨qS, hqS, eS⟩ := List.mem_map.mp hSg
        let gu2 := gu.map fun q => (q.1, if q.1 = S then oS else q.2)
        have C5 : Cx w mg mb gc L D m (soOwn d od ns2 dx odx rl orl (gu2 ++ ([(tup, tupOf rv), (it, oi4)] ++ fr'))) s''.heap := C4.chRest (a := S) (o := qS.2) (List.mem_append_left _ (by rw [← eS]; exact hqS)) (by rw [← eS]; exact X.ap qS (List.mem_append_left _ hqS)) hkeep fun q hq => by
          rcases List.mem_append.mp hq with hq | hq
          · obtain ⟨r, hr, rfl⟩ := List.mem_map.mp hq
            by_cases e : r.1 = S
            · exact .inr ⟨e, by simp only [if_pos e]; rw [e]; exact hS⟩
            · exact .inl ⟨List.mem_append_left _ (by simp only [if_neg e]; exact hr), e⟩
          · refine .inl ⟨List.mem_append_right _ hq, ?_⟩
            rcases List.mem_cons.mp hq with rfl | hq
            · exact tupS
            · rcases List.mem_cons.mp hq with rfl | hq
              · exact itS
              · exact frS q hq
        have X5 := X4.move C4 C5 fun q hq => by
          rcases List.mem_append.mp hq with hq | hq
          · obtain ⟨r, hr, rfl⟩ := List.mem_map.mp hq
            exact X.ap r (List.mem_append_left _ hr)
          · exact apS q (List.mem_append_right _ hq)
        refine ihj (i + 1) gu2 s'' s'' m oi4 (by exact ar4 hij) X5 hc4 hd4 ?_ (fun q hq => C5.get (a := q.1) (o := q.2) (so_rest (List.mem_append_left _ hq))) hself hng ⟨s''.heap, s''.toks, rfl⟩
        rw [← hg, List.map_map]; rfl
    rw [hn', ← hrvl]
    refine inner rv.length 0 gu s₀ _ _ _ (by exact ar139) X4 rfl rfl hg hg0 hself rfl ?_
    obtain ⟨h', tk', rfl⟩ := hs
    exact ⟨_, _, rfl⟩
end
end Mine

namespace Mine
def AllBare (l : Array GenState) : Prop := ∀ x ∈ l, x.bare = true
theorem AllBare.set {l : Array GenState} (h : AllBare l) (g : Nat) {x : GenState} (hx : x.bare = true) : AllBare (l.setIfInBounds g x) := fun y hy => by
  obtain ⟨i, hi, rfl⟩ := Array.mem_iff_getElem.mp hy
  have hi' : i < l.size := by simpa using hi
  rw [Array.getElem_setIfInBounds hi']
  split
  · exact hx
  · exact h _ (Array.getElem_mem _)
theorem AllBare.push {l : Array GenState} (h : AllBare l) {x : GenState} (hx : x.bare = true) : AllBare (l.push x) := fun y hy => by
  rcases Array.mem_push.mp hy with hy | rfl
  · exact h y hy
  · exact hx
section
variable {w : World} {mg mb : Str → Option Value} {gc : Heap} {L : Addr} {D Gu : List Addr} {S x dx d : Addr} {fr : List (Addr × Obj)} {A : Around} {outer : List Env} {ord : List Int} {ns : List Nd} {gs : List (List Int)}
  {t1 t2 t3 t4 tP tF : Tok} {n1 : Nat} {od : Obj} {m : Str → Option Value}

/-- the sorter's generator from its start -/
theorem so_start (hh : A.handled = none) (hroom : A.depth + 12 < recursionLimit) (hA : A.frames = some outer) (O : Ofs outer fr) (hGu : S ∈ Gu) (hfS : ∀ p ∈ fr, p.1 ≠ S) (hself : m "self" = some (.ref x))
    (gx : gc.get? x = some (instObj 137 dx)) (xD : x ∉ D) (frD : ∀ p ∈ fr, p.1 ∈ D ∧ 181 ≤ p.1) (dxD : dx ∈ D) (ld : 181 ≤ d) (ldx : 181 ≤ dx) (hup : ∀ n ∈ ns, ∀ p ∈ n.sn, n.k < p ∧ p ∈ ns.map (·.k)) (hlen : ns.length ≤ 80) (hsl : ∀ n ∈ ns, n.sn.length ≤ 100)
    (hne : d ≠ dx) (hnod : dx ∉ (objsOf ns).map (·.1)) (hlow : 181 ≤ L)
    (hrun : Run (ct ns) (readyOf ns) gs) (hord : ord = gs.flatten) {gu : List (Addr × Obj)} {s₀ : Shared}
    (C : Cx w mg mb gc L D m ((d, od) :: (objsOf ns ++ ((dx, dictOf (sEnt w t1 t2 t3 t4 (.ref d) .none (.int 0 tP) (.int 0 tF)) n1) :: (gu ++ fr)))) s₀.heap) (N : Nds w s₀.heap d ns)
    (hg : gu.map (·.1) = Gu) (hgp : ∀ p ∈ gu, p.1 ∉ fp d ns [dx] ∧ p.1 ∉ fr.map (·.1)) (hfp : ∀ p ∈ fr, p.1 ∉ fp d ns [dx]) :
    Seg (model pg w) A (soR gc D Gu fr) (soY gc D Gu S fr ord) ord.length s₀ (.func (bodyOf w 134) (envAt w 134 L)) ((model pg w).den (.func (bodyOf w 134) (envAt w 134 L))) [] s₀ := by
  show Seg _ _ _ _ _ _ (Code.func (_ :: _ :: []) (envOf _ _ _ _ _)) _ _ _
  have dxm : ∀ {o l}, (dx, o) ∈ (d, od) :: (objsOf ns ++ ((dx, o) :: l)) := .tail _ (List.mem_append_right _ (.head _))
  have fpm : ∀ b ∈ fp d ns [], b ∈ fp d ns [dx] := fun b hb => by
    rcases List.mem_cons.mp hb with rfl | hb
    · exact .head _
    · rw [List.append_nil] at hb; exact .tail _ (List.mem_append_left _ hb)
  have fpo : ∀ b ∈ fp d ns [dx], ∃ o, (b, o) ∈ (d, od) :: (objsOf ns ++ ((dx, dictOf (sEnt w t1 t2 t3 t4 (.ref d) .none (.int 0 tP) (.int 0 tF)) n1) :: (gu ++ fr))) := fun b hb => by
    rcases List.mem_cons.mp hb with rfl | hb
    · exact ⟨_, .head _⟩
    · rcases List.mem_append.mp hb with hb | hb
      · obtain ⟨p, hp, rfl⟩ := List.mem_map.mp hb; exact ⟨p.2, .tail _ (List.mem_append_left _ hp)⟩
      · rcases List.mem_singleton.mp hb with rfl; exact ⟨_, dxm⟩
  have hx0 := C.keep gx xD
  refine seg_func (seg_execs_cons (seg_wrap (wpAny_Expr_any (MethodCall_ (n_loc C hself (me_fn C.G hx0 (C.get dxm) (by with_unfolding_all rfl) (by with_unfolding_all rfl) (by with_unfolding_all rfl) ?_))) (by rfl) (by rfl))))
  refine callWith_K0 C.G.X (by with_unfolding_all rfl) ?_
  obtain ⟨oL, esL, epL, hoL, hdL, rL⟩ := id C.ns
  have frm : ∀ p ∈ fr, s₀.heap.get? p.1 = some p.2 := fun p hp => C.get (a := p.1) (o := p.2) (.tail _ (List.mem_append_right _ (.tail _ (List.mem_append_right _ hp))))
  have frL : ∀ p ∈ fr, p.1 ≠ L := fun p hp => C.ne (a := p.1) (o := p.2) (.tail _ (List.mem_append_right _ (.tail _ (List.mem_append_right _ hp))))
  refine wpAny_call (prepare_spec (fr := (L, oL) :: fr) (outer := envAt w 134 L :: outer) C.G hh (by show A.depth + 0 + 1 + 6 < _; exact ar76 hroom) (by unfold Around.over; dsimp only; rw [hA]; rfl) ?_ ?_ hx0 (C.get dxm) N ld ldx hup hlen hsl hne hnod ?_ ?_)
  · refine ⟨fun env he => ?_, fun p hp vs => ?_, fun p hp => ?_⟩
    · rcases List.mem_cons.mp he with rfl | he
      · exact ⟨(fun q => by have e : (fdOf w 134).scope.kind = .function := rfl; have q : (fdOf w 134).scope.kind = .module := q; rw [e] at q; cases q), _, .head _, rfl⟩
      · obtain ⟨a, p, hp, e⟩ := O.ok env he; exact ⟨a, p, .tail _ hp, e⟩
    · rcases List.mem_cons.mp hp with rfl | hp
      · show oL.data ≠ _
        rw [hdL]; simp
      · exact O.data p hp vs
    · rcases List.mem_cons.mp hp with rfl | hp
      · exact .head _
      · exact .tail _ (O.sub p hp)
  · intro p hp
    rcases List.mem_cons.mp hp with rfl | hp
    · exact ⟨hoL, hlow⟩
    · exact ⟨frm p hp, (frD p hp).2⟩
  · intro p hp
    rcases List.mem_cons.mp hp with rfl | hp
    · refine ⟨Nat.ne_of_gt (Nat.lt_of_lt_of_le (Heap.lt_size gx) C.above), (C.ne dxm).symm, fun q => ?_⟩
      obtain ⟨o, ho⟩ := fpo _ (fpm _ q)
      exact C.ne ho rfl
    · refine ⟨fun e => xD (e ▸ (frD p hp).1), fun e => hfp p hp (e ▸ .tail _ (List.mem_append_right _ (.head _))), fun q => hfp p hp (fpm _ q)⟩
  · intro h1 fr1 rl rv n2 n3 tk1 MK hfr1 hk1 hdx1 hrl1 hiv1 hrln lrl
    obtain ⟨oL', fr', rfl, ⟨sl, rfl⟩, hLn, MK'⟩ := MK.cons_inv frL
    have hidrl : (hideAll gc D).get? rl = none := by
      cases q : (hideAll gc D).get? rl with
      | none => rfl
      | some o => have := C.fr.keep _ _ q; rw [hrln] at this; cases this
    have C1 : Cx w mg mb gc L D m (soOwn d od ns dx (dictOf (sEnt w t1 t2 t3 t4 (.ref d) (.ref rl) (.int 0 tP) (.int 0 tF)) n2) rl (listOf rv.toArray n3) (gu ++ ([] ++ fr'))) h1 := C.callL (D' := dx :: fr.map (·.1)) (fun b o e q q' => hk1 b o e (fun z => by
          rcases List.mem_cons.mp z with z | z
          · exact q' z
          · exact q (.tail _ z)) fun z => q (z ▸ .head _)) (fun o e => by
            have e' : some o = some oL := e.symm.trans hoL
            cases e'
            exact ⟨sl, hfr1 _ (.head _)⟩) (fun a ha => by
              rcases List.mem_cons.mp ha with rfl | ha
              · exact hideAll_none _ dxD
              · obtain ⟨p, hp, rfl⟩ := List.mem_map.mp ha; exact hideAll_none _ (frD p hp).1) fun p hp => by
      have nfr : ∀ b ∈ fp d ns [], b ∉ dx :: fr.map (·.1) := fun b hb q => by
        rcases List.mem_cons.mp q with rfl | q
        · rcases List.mem_cons.mp hb with e | hb
          · exact hne e.symm
          · rw [List.append_nil] at hb; exact hnod hb
        · obtain ⟨p, hp, e⟩ := List.mem_map.mp q; exact hfp p hp (e ▸ fpm _ hb)
      rcases List.mem_cons.mp hp with rfl | hp
      · exact .inl ⟨.head _, nfr _ (.head _)⟩
      · rcases List.mem_append.mp hp with hp | hp
        · exact .inl ⟨.tail _ (List.mem_append_left _ hp), nfr _ (.tail _ (List.mem_append_left _ (List.mem_map_of_mem hp)))⟩
        · rcases List.mem_cons.mp hp with rfl | hp
          · exact .inr ⟨hdx1, C.ne dxm, hideAll_none _ dxD⟩
          · rcases List.mem_cons.mp hp with rfl | hp
            · refine .inr ⟨hrl1, fun e => ?_, hidrl⟩
              have e : rl = L := e
              rw [e, hoL] at hrln; cases hrln
            · rcases List.mem_append.mp hp with hp | hp
              · refine .inl ⟨.tail _ (List.mem_append_right _ (.tail _ (List.mem_append_left _ hp))), fun q => ?_⟩
                rcases List.mem_cons.mp q with q | q
                · exact (hgp p hp).1 (q ▸ .tail _ (List.mem_append_right _ (.head _)))
                · exact (hgp p hp).2 q
              · refine .inr ⟨hfr1 _ (.tail _ hp), fun e => hLn (e ▸ List.mem_map_of_mem hp), ?_⟩
                have : p.1 ∈ fr.map (·.1) := MK'.1 ▸ List.mem_map_of_mem hp
                obtain ⟨q, hq, e⟩ := List.mem_map.mp this
                rw [← e]; exact hideAll_none _ (frD q hq).1
    have rlfp : ∀ {b}, b ∈ fp d ns [dx] → b ≠ rl := fun hb e => by
      obtain ⟨o, ho⟩ := fpo _ hb
      have := C.get ho
      rw [e, hrln] at this; cases this
    have X1 : Gx w mg mb gc L D x dx d rl ns rv 0 0 m (gu ++ ([] ++ fr')) h1 := by
      refine ⟨⟨_, _, _, C1⟩, ⟨C1.keep gx xD, ⟨t1, t2, t3, t4, tP, tF, n2, hdx1⟩, ⟨n3, hrl1⟩, ?_, ld, ldx, lrl, hne, hnod, fun q => rlfp (.tail _ (List.mem_append_left _ q)) rfl⟩, fun p hp => ?_, gx, xD⟩
      · exact Nds.cx N C C1
      · have z : p.1 ∉ fp d ns [dx] ∧ s₀.heap.get? p.1 ≠ none := by
          rcases List.mem_append.mp hp with hp | hp
          · exact ⟨(hgp p hp).1, by rw [C.get (a := p.1) (o := p.2) (.tail _ (List.mem_append_right _ (.tail _ (List.mem_append_left _ hp))))]; simp⟩
          · have : p.1 ∈ fr.map (·.1) := MK'.1 ▸ List.mem_map_of_mem hp
            obtain ⟨q, hq, e⟩ := List.mem_map.mp this
            rw [← e]; exact ⟨hfp q hq, by rw [frm q hq]; simp⟩
        intro q
        rcases List.mem_cons.mp q with e | q
        · exact z.1 (e ▸ .head _)
        · rcases List.mem_append.mp q with q | q
          · exact z.1 (.tail _ (List.mem_append_left _ q))
          · simp only [List.mem_cons, List.not_mem_nil, or_false] at q
            rcases q with e | e
            · exact z.1 (e ▸ .tail _ (List.mem_append_right _ (.head _)))
            · exact z.2 (e ▸ hrln)
    subst hord
    refine seg_execs_cons (seg_While fun p => ?_)
    exact so_while hh (by exact ar77 hroom) hGu hfS rfl gs ns rv (readyOf ns) 0 m gu fr' _ s₀ _ hrun hiv1 X1 MK' hg (fun p hp => C.get (a := p.1) (o := p.2) (.tail _ (List.mem_append_right _ (.tail _ (List.mem_append_left _ hp))))) hself rfl (by simp) (Nat.le_refl _) ⟨_, _, rfl⟩
end
end Mine

namespace Mine
section
variable {w : World} {mg mb : Str → Option Value} {gc : Heap} {L : Addr} {D : List Addr} {x dx d a : Addr} {fr : List (Addr × Obj)} {A : Around} {outer : List Env} {ord : List Int} {ns : List Nd} {gs : List (List Int)}
  {t1 t2 t3 t4 tP tF : Tok} {n1 g : Nat} {od oa : Obj} {m : Str → Option Value} {s : Shared} {E : Value → Shared → Prop} {Q : Value → Shared → Prop}
theorem ints_snoc {vs : List Value} {ks : List Int} (h : IntsAre vs ks) (k : Int) (t : Tok) : IntsAre (vs ++ [.int k t]) (ks ++ [k]) := h.append (.cons k t .nil)

theorem so_list (hh : A.handled = none) (hroom : A.depth + 20 < recursionLimit) (hA : A.frames = some outer) (O : Ofs outer fr) (hself : m "self" = some (.ref x))
    (gx : gc.get? x = some (instObj 137 dx)) (xD : x ∉ D) (frD : ∀ p ∈ fr, p.1 ∈ D ∧ 181 ≤ p.1) (dxD : dx ∈ D) (ld : 181 ≤ d) (ldx : 181 ≤ dx) (hup : ∀ n ∈ ns, ∀ p ∈ n.sn, n.k < p ∧ p ∈ ns.map (·.k)) (hlen : ns.length ≤ 80) (hsl : ∀ n ∈ ns, n.sn.length ≤ 100)
    (hne : d ≠ dx) (hnod : dx ∉ (objsOf ns).map (·.1)) (hlow : 181 ≤ L)
    (hrun : Run (ct ns) (readyOf ns) gs) (hord : ord = gs.flatten) (hol : ord.length ≤ 1000)
    (C : Cx w mg mb gc L D m ((d, od) :: (objsOf ns ++ ((dx, dictOf (sEnt w t1 t2 t3 t4 (.ref d) .none (.int 0 tP) (.int 0 tF)) n1) :: ((a, oa) :: fr)))) s.heap) (N : Nds w s.heap d ns)
    (hgp : a ∉ fp d ns [dx] ∧ a ∉ fr.map (·.1)) (hfp : ∀ p ∈ fr, p.1 ∉ fp d ns [dx])
    (hgen : s.heap.IsGen a g) (hgs : s.gens[g]? = some (.fresh (.func (bodyOf w 134) (envAt w 134 L))))
    (h : ∀ h' tk acc c fr' gens', Marked fr fr' → (∀ p ∈ fr', h'.get? p.1 = some p.2) → (∀ b o, gc.get? b = some o → b ∉ D → h'.get? b = some o) → h'.get? s.heap.objs.size = some (listOf acc.toArray c) → IntsAre acc ord →
      (AllBare s.gens → AllBare gens') → Q (.ref s.heap.objs.size) { s with heap := h', toks := tk, gens := gens' }) :
    wpAny (model pg w) A (call (.type "list") [.ref a]) Q E s := by
  have lo : ∀ h' : Heap, (∀ b o, gc.get? b = some o → b ∉ D → h'.get? b = some o) → Gd w mg mb h' := fun h' hk => C.G0.keeps fun b o hb e => hk b o e fun q => absurd (C.low b q) (Nat.not_le.mpr hb)
  let S := s.heap.objs.size
  let Gu : List Addr := [S, a]
  have aS : a ≠ S := Nat.ne_of_lt (C.lt (o := oa) (.tail _ (List.mem_append_right _ (.tail _ (.head _)))))
  let Inv : Nat → List Value → Shared → Prop := fun j acc s' => ∃ gst, s'.gens[g]? = some gst ∧ s'.heap.IsGen a g ∧ acc.length + j = ord.length ∧ IntsAre acc (ord.take acc.length) ∧ (∃ fr', Marked fr fr' ∧ ∀ p ∈ fr', s'.heap.get? p.1 = some p.2) ∧
    (∀ b o, gc.get? b = some o → b ∉ D → s'.heap.get? b = some o) ∧ (s'.drawn = s.drawn ∧ s'.os = s.os) ∧ (AllBare s.gens → AllBare s'.gens) ∧
    ∀ s'' : Shared, (∀ b o, b ≠ S → s'.heap.get? b = some o → s''.heap.get? b = some o) → (∃ o, s''.heap.get? S = some o) → gst.Goes (model pg w) A.in1.in1.in1 (soR gc D Gu fr) (soY gc D Gu S fr ord) j (.send .none) s''
  have frS : ∀ p ∈ fr, p.1 ≠ S := fun p hp => Nat.ne_of_lt (C.lt (a := p.1) (o := p.2) (.tail _ (List.mem_append_right _ (.tail _ (.tail _ hp)))))
  have frm : ∀ p ∈ fr, s.heap.get? p.1 = some p.2 := fun p hp => C.get (a := p.1) (o := p.2) (.tail _ (List.mem_append_right _ (.tail _ (.tail _ hp))))
  refine list_gen (g := g) Inv ord.length hol (fun j acc s' hi => ?_) (fun j acc s' hi => ?_) (fun j acc s' h' hi hk => ?_) (fun c => ?_) fun j acc s' c hi hS => ?_
  · obtain ⟨gst, _, h1, _⟩ := hi; exact h1
  · obtain ⟨gst, _, _, h1, _⟩ := hi; exact h1
  · obtain ⟨gst, i1, i2, i3, i4, ⟨fr', i5, i5'⟩, i6, i7, i8, i9⟩ := hi
    refine ⟨gst, i1, ?_, i3, i4, ⟨fr', i5, fun p hp => hk _ _ ?_ (i5' p hp)⟩, fun b o e q => hk _ _ ?_ (i6 b o e q), i7, i8, fun s'' k1 k2 => i9 s'' (fun b o hb e => k1 b o hb (hk b o hb e)) k2⟩
    · obtain ⟨o, nm, qn, ho, r⟩ := i2; exact ⟨o, nm, qn, hk _ _ aS ho, r⟩
    · have : p.1 ∈ fr.map (·.1) := i5.1 ▸ List.mem_map_of_mem hp
      obtain ⟨q, hq, e'⟩ := List.mem_map.mp this
      rw [← e']; exact frS q hq
    · exact Nat.ne_of_lt (Nat.lt_trans (Nat.lt_of_lt_of_le (Heap.lt_size e) C.above) C.ns.lt)
  · have push : ∀ b o, s.heap.get? b = some o → (s.heap.push (listOf #[] c)).get? b = some o := fun b o e => Heap.get?_push_of_some _ e
    refine ⟨_, hgs, hgen.push _, by simp, by simpa using IntsAre.nil, ⟨fr, Marked.refl _, fun p hp => push _ _ (frm p hp)⟩, fun b o e q => push _ _ (C.keep e q), ⟨rfl, rfl⟩, id, fun s'' k1 k2 => ⟨rfl, ?_⟩⟩
    obtain ⟨oS, k2⟩ := k2
    have kk : ∀ b o, s.heap.get? b = some o → s''.heap.get? b = some o := fun b o e => k1 b o (Nat.ne_of_lt (Heap.lt_size e)) (push _ _ e)
    have C2 : Cx w mg mb gc L D m ((d, od) :: (objsOf ns ++ ((dx, dictOf (sEnt w t1 t2 t3 t4 (.ref d) .none (.int 0 tP) (.int 0 tF)) n1) :: ([(S, oS), (a, oa)] ++ fr)))) s''.heap := C.call (D' := []) (fun b o e _ => kk b o e) (fun _ q => nomatch q) fun p hp => by
      rcases List.mem_cons.mp hp with rfl | hp
      · exact .inl ⟨.head _, by simp⟩
      · rcases List.mem_append.mp hp with hp | hp
        · exact .inl ⟨.tail _ (List.mem_append_left _ hp), by simp⟩
        · rcases List.mem_cons.mp hp with rfl | hp
          · exact .inl ⟨.tail _ (List.mem_append_right _ (.head _)), by simp⟩
          · rcases List.mem_cons.mp hp with rfl | hp
            · exact .inr ⟨k2, .inr (none_of_ge (Nat.le_refl _))⟩
            · exact .inl ⟨.tail _ (List.mem_append_right _ (.tail _ hp)), by simp⟩
    have So : ∀ b ∈ fp d ns [dx], b ≠ S := fun b hb => by
      rcases List.mem_cons.mp hb with rfl | hb
      · exact Nat.ne_of_lt (C.lt (.head _))
      · rcases List.mem_append.mp hb with hb | hb
        · obtain ⟨p, hp, rfl⟩ := List.mem_map.mp hb; exact Nat.ne_of_lt (C.lt (a := p.1) (o := p.2) (.tail _ (List.mem_append_left _ hp)))
        · rcases List.mem_singleton.mp hb with rfl; exact Nat.ne_of_lt (C.lt (.tail _ (List.mem_append_right _ (.head _))))
    refine so_start (A := A.in1.in1.in1) (gu := [(S, oS), (a, oa)]) hh (by show A.depth + 12 < _; exact ar2 hroom) hA O (.head _) frS hself gx xD frD dxD ld ldx hup hlen hsl hne hnod hlow hrun hord C2 (N.keeps kk) rfl (fun p hp => ?_) hfp
    simp only [List.mem_cons, List.not_mem_nil, or_false] at hp
    rcases hp with rfl | rfl
    · refine ⟨fun q => So _ q rfl, fun q => ?_⟩
      obtain ⟨p, hp, e⟩ := List.mem_map.mp q
      exact frS p hp e
    · exact hgp
  · obtain ⟨gst, i1, i2, i3, i4, ⟨fr', i5, i5'⟩, i6, ⟨i7, i7'⟩, i8, i9⟩ := hi
    refine next_gen (A := A.in1.in1) hh (lo _ i6).lim (by show A.depth < _; exact ar3 hroom) i2 i1 (i9 (s'.setGen g .running) (fun b o _ e => e) ⟨_, hS⟩) (fun v s₁ gs' hb hv => ?_) fun r s₁ hr => ?_
    · obtain ⟨⟨k, t, rfl, hk⟩, ⟨⟨h1, tk1, rfl⟩, o2, o3, o4⟩, hkap⟩ := hv
      have hj : ∃ i, j = i + 1 := by
        cases j with
        | zero => exact (hkap _ (fun _ _ _ e => e) ⟨_, o2 S (.head _) _ hS⟩).elim
        | succ i => exact ⟨i, rfl⟩
      obtain ⟨i, rfl⟩ := hj
      refine ⟨o2 S (.head _) _ hS, i, rfl, gs', setGen_self (gs := .running) (setGen_self i1), ?_, ?_, ?_, o3, o4, ⟨i7, i7'⟩, fun hbare => ((i8 hbare).set g rfl).set g hb, fun s'' k1 k2 => hkap s'' k1 k2⟩
      · obtain ⟨o, nm, qn, ho, r⟩ := i2; exact ⟨o, nm, qn, o2 a (.tail _ (.head _)) _ ho, r⟩
      · rw [List.length_append, List.length_singleton]; exact ar4 i3
      · rw [List.length_append, List.length_singleton]
        have hidx : ord.length - 1 - (i + 1 - 1) = acc.length := by exact ar5 i3
        rw [hidx] at hk
        rw [List.take_add_one, hk]
        exact ints_snoc i4 k t
    · obtain ⟨rfl, hn, ⟨⟨h1, tk1, rfl⟩, o2, ⟨fr2, o3, o3'⟩, o4⟩⟩ := hr
      refine .inl ⟨rfl, fun h' hx => ⟨hx _ _ (o2 S (.head _) _ hS), ?_⟩⟩
      subst hn
      have e : acc.length = ord.length := by exact ar6 i3
      rw [e, List.take_length] at i4
      obtain ⟨sh, sg, sd, st, so⟩ := s'
      simp only at i7 i7'
      subst i7 i7'
      exact h h' _ acc c fr2 _ o3 (fun p hp => hx _ _ (o3' p hp)) (fun b o e q => hx _ _ (o4 b o e q)) (hx _ _ (o2 S (.head _) _ hS)) i4 fun hb => ((i8 hb).set g rfl).set g rfl
end
end Mine

namespace Mine
section
variable {w : World} {mg mb : Str → Option Value} {g : Heap} {L f : Addr} {D : List Addr} {m : Str → Option Value} {own : List (Addr × Obj)} {s : Shared} {A : Around} {E : Value → Shared → Prop}
  {x : Str} {pos : Pos} {v : Value} {env : Env}
/-- an object more among the known -/
theorem Cx.add {h : Heap} (C : Cx w mg mb g L D m own h) {a : Addr} {o : Obj} (ha : h.get? a = some o) (hL : a ≠ L) (hn : (hideAll g D).get? a = none) : Cx w mg mb g L D m ((a, o) :: own) h :=
  C.of C.fr fun p hp => by
    rcases List.mem_cons.mp hp with rfl | hp
    · exact ⟨ha, hL, hn⟩
    · exact C.nw p hp
theorem Cx.hid {h : Heap} (C : Cx w mg mb g L D m own h) {a : Addr} (ha : L ≤ a) : (hideAll g D).get? a = none := by
  cases q : (hideAll g D).get? a with
  | none => rfl
  | some o => have h1 := Heap.lt_size q; exact absurd h1 (Nat.not_lt.mpr (Nat.le_trans C.fr.above ha))
theorem enterC {R : Result → Shared → Prop} {oc : Value} {od : Option Addr} {osl : Array (Option Value)} {name qual : Str} {params : Arguments} {body : List Stmt} {scope : Scope} {dV kV doc pm cdv ct : Value} {an : Option Addr} {vals : List Value} {binds : List (Str × Value)}
    (G : Gd w mg mb s.heap) (hroom : A.depth < recursionLimit)
    (ho : (Kf w).lookup f = some ⟨oc, od, .func (fnOf name qual params body scope dV kV doc pm an cdv ct), osl⟩)
    (hcd : codeIn (Kf w) cdv qual = true)
    (hbind : bindArgs (fnOf name qual params body scope dV kV doc pm an cdv ct) ⟨vals, []⟩ = pure binds)
    (hkind : (binds.all fun x => decide (scope.names.lookup x.1 = some .local) || (decide (scope.names.lookup x.1 = some .cell) && ((cellsFrom (s.heap.objs.size + 1) scope.names []).lookup x.1).isSome)) = true)
    (hco : scope.isCoroutine = false) (hgen : scope.isGenerator = false) (hk : scope.kind = .function)
    (h : ∀ h₁ tk, h₁.Ns s.heap.objs.size (bindL (envOfC qual scope s.heap.objs.size f cdv).kindOf binds fun _ => none) → (∀ b o, s.heap.get? b = some o → h₁.get? b = some o) →
      (∀ n c, (cellsFrom (s.heap.objs.size + 1) scope.names []).lookup n = some c → s.heap.objs.size < c ∧ h₁.IsCell c (bindC (envOfC qual scope s.heap.objs.size f cdv).kindOf binds (fun _ => none) n)) →
      ∀ (J : Flow → Shared → Prop) E', (∀ v s', R (.ok (.ret v)) s' → J (.ret v) s') → (∀ s', R (.ok (.ret .none)) s' → J .next s') → wpAny (model pg w) (A.deeper (envOfC qual scope s.heap.objs.size f cdv)) (execs body (envOfC qual scope s.heap.objs.size f cdv)) J E'
        { s with heap := h₁, toks := tk }) :
    codeAny (model pg w) A (.call (.ref f) ⟨vals, []⟩) R s := by
  refine codeAny_call_cells (fd := fnOf name qual params body scope dV kV doc pm an cdv ct) hroom (G.X _ _ ho) rfl G.lim (codeRec_of G.X hcd) rfl hbind rfl (fun x hx => by have := List.all_eq_true.mp hkind x hx; simpa using this) (fun s₁ X => ?_) hco hgen hk
  obtain ⟨h₁, tk, rfl, hkp⟩ := X.done
  exact h h₁ tk X.toInCall.ns hkp (fun n c e => ⟨X.above n c (mem_of_lookup e), X.cell n c e⟩) _ _ (fun _ _ q => q) (fun _ q => q)

theorem e_cell {Q : Value → Shared → Prop} {c : Addr} {oc : Obj} (C : Cx w mg mb g L D m own s.heap) (hm : (c, oc) ∈ own) (hd : oc.data = .cell (some v)) (h : Q v s) (hc : env.cells.lookup x = some c := by rfl) (hk : env.scope.kind = .function := by rfl) (hl : env.kindOf x = some .cell := by rfl)
    (hdb : (x == ("__debug__" : Str)) = false := by rfl) : wpAny (model pg w) A (eval (.Name x pos) env) Q E s := wpAny_Name (wpAny_loadName_cell hk hl hc ⟨oc, C.get hm, hd⟩ h) hdb
theorem e_st {Q : Unit → Shared → Prop} (C : Cx w mg mb g L D m own s.heap) (h : ∀ h', Cx w mg mb g L D (fun y => if y = x then some v else m y) own h' → Q () { s with heap := h', toks := s.toks + 1 })
    (hL : env.locals = L := by rfl) (hk : env.scope.kind = .function := by rfl) (hl : env.kindOf x = some .local := by rfl) : wpAny (model pg w) A (storeName env x v) Q E s := by
  subst hL
  exact wpAny_storeName_local hl C.ns (fun h' hn hs => h h' (C.st hn hs)) (by rw [hk]; rfl)
theorem e_stc {Q : Unit → Shared → Prop} {c : Addr} {oc : Obj} {v₀ : Option Value} (C : Cx w mg mb g L D m own s.heap) (hm : (c, oc) ∈ own) (hd : oc.data = .cell v₀)
    (h : ∀ h' oc', oc'.data = .cell (some v) → (∀ own', Upd own c oc' own' → Cx w mg mb g L D m own' h') → Q () { s with heap := h' }) (hc : env.cells.lookup x = some c := by rfl) (hk : env.scope.kind = .function := by rfl) (hl : env.kindOf x = some .cell := by rfl) :
    wpAny (model pg w) A (storeName env x v) Q E s :=
  wpAny_storeName_cell hk hl hc ⟨oc, C.get hm, hd⟩ fun h' hv hs => by
    obtain ⟨oc', ho, hd'⟩ := hv
    exact h h' oc' hd' fun own' u => C.chg hm hs ho u

theorem any_int {vs : List Value} {ks : List Int} (hi : IntsAre vs ks) (k : Int) : vs.any (isInt k) = decide (k ∈ ks) := by
  rw [any_isInt k hi, Bool.eq_iff_iff]
  simp
theorem kf_of {vs : List Value} {ks : List Int} (hi : IntsAre vs ks) : kf_ints vs = true := by
  induction hi with
  | nil => rfl
  | cons n t r ih => exact ih
theorem in_ints {l : Addr} {vs : List Value} {ks : List Int} {k : Int} {t : Tok} {Q : Value → Shared → Prop} (hl : s.heap.IsList l vs.toArray) (hi : IntsAre vs ks) (h : Q (.bool (decide (k ∈ ks))) s) : wpAny (model pg w) A (compareOp .In (.int k t) (.ref l)) Q E s :=
  SeqInW.in_listW (isInt k) (fun y hy => kf_eq (kf_of hi) y (by simpa using hy)) hl (by rw [← Array.any_toList]; simp only [List.toList_toArray]; rw [any_int hi]; exact h)
theorem notin_ints {l : Addr} {vs : List Value} {ks : List Int} {k : Int} {t : Tok} {Q : Value → Shared → Prop} (hl : s.heap.IsList l vs.toArray) (hi : IntsAre vs ks) (h : Q (.bool (!decide (k ∈ ks))) s) : wpAny (model pg w) A (compareOp .NotIn (.int k t) (.ref l)) Q E s :=
  SeqInW.notIn_listW (isInt k) (fun y hy => kf_eq (kf_of hi) y (by simpa using hy)) hl (by rw [← Array.any_toList]; simp only [List.toList_toArray]; rw [any_int hi]; exact h)
structure ListI (w : World) (A : Around) (env : Env) (scope : Scope) (cl : List (Str × Addr)) (x : Str) (ifs : List Expr) (elt : Expr) (p : Value → Bool) (F : Value → Value → Prop) (Q : Value → Shared → Prop) (xv : Value) (s₁ : Shared) (a : Addr) (items : Array Value) : Prop where
  xv : xv = .ref a
  hl : s₁.heap.IsList a items
  hsz : items.size ≤ 1000
  tests : ∀ B v s₃ m₃ E', v ∈ items.toList → s₃.heap.Ns B m₃ → m₃ x = some v → (∀ b o, s₁.heap.get? b = some o → s₃.heap.get? b = some o) →
        wpAny (model pg w) A (forIn ifs true fun c r => if r = true then do let ok ← isTrue c (compEnvC scope cl B env) (eval c (compEnvC scope cl B env)); pure (ForInStep.yield ok) else pure (ForInStep.yield r)) (fun ok s₄ => ok = p v ∧ Keeps s₃ s₄) E' s₃
  elt : ∀ B v s₃ m₃ E', v ∈ items.toList → p v = true → s₃.heap.Ns B m₃ → m₃ x = some v → (∀ b o, s₁.heap.get? b = some o → s₃.heap.get? b = some o) →
        wpAny (model pg w) A (eval elt (compEnvC scope cl B env)) (fun y s₄ => F v y ∧ Keeps s₃ s₄) E' s₃
  res : ∀ D' h' tk ys, s₁.heap.get? D' = none → h'.PlainList D' ys → Paired F (items.toList.filter p) ys.toList → (∀ b o, s₁.heap.get? b = some o → h'.get? b = some o) → Q (.ref D') { s₁ with heap := h', toks := tk }
/-- a list comprehension over a list, tests and element only reading -/
theorem comp_list {elt iter : Expr} {px : Pos} {ifs : List Expr} {scope : Scope} {cl : List (Str × Addr)} {Q : Value → Shared → Prop} (p : Value → Bool) (F : Value → Value → Prop) (hh : A.handled = none)
    (hclos : closureFor scope env = pure cl) (hcell : ∀ y ∈ scope.names, y.2 ≠ .cell) (hkind : scope.kind = .function)
    (hnames : ∀ y ∈ scope.names, y.2 = .local → scope.names.lookup y.1 = some .local) (hx : scope.names.lookup x = some .local)
    (h : wpAny (model pg w) A (eval iter env) (fun xv s₁ => ∃ a items, ListI w A env scope cl x ifs elt p F Q xv s₁ a items) E s)
    (hs : ∀ x, foldedSetIterable iter env x = pure x := by intro _; rfl) :
    wpAny (model pg w) A (eval (.ListComp elt [⟨.Name x px, iter, ifs, 0⟩] scope pos) env) Q E s := by
  refine wpAny_ListComp_free (cl := cl) p F hclos hcell hkind hnames hx (wpAny_mono h (fun xv s₁ h₁ => ?_) fun _ _ q => q) hs
  obtain ⟨a, items, rfl, hl, hsz, ht, he, hq⟩ := h₁
  refine wpAny_pyIter_list hl ?_
  obtain ⟨o, ho, _⟩ := id hl
  have la : a < s₁.heap.objs.size := Heap.lt_size ho
  have keep : ∀ b o, s₁.heap.get? b = some o → (s₁.heap.push { cls := .type "list_iterator", data := .fields #[.ref a, .int 0 0] }).get? b = some o := fun b o e => Heap.get?_push_of_some _ e
  have nI : ∀ {b o}, s₁.heap.get? b = some o → b ∉ [s₁.heap.objs.size] := fun e q => absurd (List.mem_singleton.mp q) (Nat.ne_of_lt (Heap.lt_size e))
  refine ⟨_, _, _, _, _, _, rfl, Walks.list (prog := pg) (w := w) (A := A) hh s₁.heap.objs.size a (Nat.ne_of_lt la) items, by rw [sizeLine_eq]; omega, ⟨⟨_, Heap.get?_push_size _ rfl, rfl, rfl⟩, hl.push _⟩, ?_, ⟨?_, ?_⟩, ?_⟩
  · intro b hb
    simp only [List.mem_cons, List.not_mem_nil, or_false] at hb
    rcases hb with rfl | rfl
    · show _ < (s₁.heap.push _).objs.size; rw [Heap.size_push]; exact Nat.lt_succ_self _
    · show _ < (s₁.heap.push _).objs.size; rw [Heap.size_push]; exact Nat.lt_succ_of_lt la
  · intro B i v s₃ m₃ E' _ hP hn hm hk _
    exact ht B v s₃ m₃ E' (List.mem_of_getElem? (by simpa using hP)) hn hm fun b o e => hk b o (nI e) (keep b o e)
  · intro B i v s₃ m₃ E' _ hP hpv hn hm hk _
    exact he B v s₃ m₃ E' (List.mem_of_getElem? (by simpa using hP)) hpv hn hm fun b o e => hk b o (nI e) (keep b o e)
  · intro D' h' tk ys vs hD _ hpl hlen hP hF hk
    have ev : vs = items.toList := by
      apply List.ext_getElem?
      intro j
      cases hj : vs[j]? with
      | none => rw [List.getElem?_eq_none_iff.mpr]; have := List.getElem?_eq_none_iff.mp hj; rw [Array.length_toList]; omega
      | some v => rw [Array.getElem?_toList]; exact (hP j v hj).symm
    subst ev
    refine hq D' h' tk ys ?_ hpl hF fun b o e => hk b o (nI e) (keep b o e)
    cases q : s₁.heap.get? D' with
    | none => rfl
    | some o => have := keep _ _ q; rw [show (s₁.heap.push _).get? D' = none from hD] at this; cases this
end
end Mine

namespace Mine
/-- a list of ints, or None -/
def Opt (h : Heap) (v : Value) (o : Option (List Int)) : Prop := match o with
  | none => v = .none
  | some ks => ∃ a vs n, v = .ref a ∧ h.get? a = some (listOf vs.toArray n) ∧ IntsAre vs ks ∧ ks.length ≤ 100
theorem Opt.keeps {h h' : Heap} {v : Value} {o : Option (List Int)} (x : Opt h v o) (hk : ∀ b o, h.get? b = some o → h'.get? b = some o) : Opt h' v o := by
  cases o with
  | none => exact x
  | some ks => obtain ⟨a, vs, n, e, ha, r⟩ := x; exact ⟨a, vs, n, e, hk _ _ ha, r⟩
def maxBelow (ks : List Int) (p : Int) : Int := (ks.filter fun k => decide (k < p)).foldl max 0
def needs1 (fo : Option (List Int)) (p : Int) : List Int := match fo with | none => [] | some ks => if p ∈ ks then [] else [p - 1]
def needs2 (so : Option (List Int)) (p : Int) : List Int := match so with | none => [] | some ks => if p ∈ ks ∧ p ≠ 0 then [maxBelow ks p] else []
def needsF (fo so : Option (List Int)) (p : Int) : List Int := needs1 fo p ++ needs2 so p
theorem foldl_max_le : ∀ (l : List Int) (a M : Int), a ≤ M → (∀ b ∈ l, b ≤ M) → l.foldl max a ≤ M
  | [], a, M, h, _ => h
  | b :: l, a, M, h, hl => foldl_max_le l (max a b) M (Int.max_le.mpr ⟨h, hl b (.head _)⟩) fun c hc => hl c (.tail _ hc)
theorem le_foldl_max : ∀ (l : List Int) (a : Int), a ≤ l.foldl max a ∧ ∀ b ∈ l, b ≤ l.foldl max a
  | [], a => ⟨Int.le_refl _, fun _ q => nomatch q⟩
  | b :: l, a => by
    obtain ⟨h1, h2⟩ := le_foldl_max l (max a b)
    refine ⟨Int.le_trans (Int.le_max_left a b) h1, fun c hc => ?_⟩
    rcases List.mem_cons.mp hc with rfl | hc
    · exact Int.le_trans (Int.le_max_right a c) h1
    · exact h2 c hc
theorem max_is {l : List Int} {M : Int} (hM : M ∈ l) (hle : ∀ a ∈ l, a ≤ M) (h0 : 0 ≤ M) : M = l.foldl max 0 :=
  Int.le_antisymm ((le_foldl_max l 0).2 M hM) (foldl_max_le l 0 M h0 hle)
theorem paired_filter {p : Value → Bool} {q : Int → Bool} {F : Value → Value → Prop} : ∀ {vs : List Value} {ks : List Int} {ys : List Value}, IntsAre vs ks → (∀ k t, p (.int k t) = q k) → (∀ k t y, F (.int k t) y → ∃ t', y = .int k t') → Paired F (vs.filter p) ys → IntsAre ys (ks.filter q)
  | _, _, ys, .nil, _, _, h => by cases h; exact .nil
  | _, _, ys, .cons k t r, h1, h2, h => by
    rw [List.filter_cons, h1] at h
    rw [List.filter_cons]
    cases hz : q k with
    | false => rw [hz] at h; exact paired_filter r h1 h2 h
    | true =>
      rw [hz] at h
      cases h with
      | cons a b =>
        obtain ⟨t, rfl⟩ := h2 _ _ _ a
        exact .cons _ _ (paired_filter r h1 h2 b)
section
variable {w : World} {mg mb : Str → Option Value} {s : Shared} {A : Around} {E : Value → Shared → Prop} {fo so : Option (List Int)} {vf vs : Value} {p : Int} {tp : Tok}
theorem needs_spec {R : Result → Shared → Prop} (G : Gd w mg mb s.heap) (hh : A.handled = none) (hroom : A.depth + 5 < recursionLimit) (hf : Opt s.heap vf fo) (hs : Opt s.heap vs so) (h0 : ∀ ks, so = some ks → 0 ∈ ks) (hp : 0 ≤ p)
    (h : ∀ h' a us n tk, (∀ b o, s.heap.get? b = some o → h'.get? b = some o) → s.heap.get? a = none → h'.get? a = some (listOf us.toArray n) → IntsAre us (needsF fo so p) → R (.ok (.ret (.ref a))) { s with heap := h', toks := tk }) :
    codeAny (model pg w) A (.call (.ref 163) ⟨[.int p tp, vf, vs], []⟩) R s := by
  refine enterC (binds := [("place", .int p tp), ("firsts", vf), ("seconds", vs)]) G (by exact ar52 hroom) rfl (by with_unfolding_all rfl) rfl rfl rfl rfl rfl ?_
  intro h₁ tk hns hk hcell J₀ E₀ hJ₀ hN₀
  have C0 : Cx w mg mb s.heap s.heap.objs.size [] _ [] h₁ := Cx.start0 G hns hk
  obtain ⟨hLc, oc, hoc, hdc⟩ := hcell "place" (s.heap.objs.size + 1) rfl
  have C := C0.add hoc (Nat.ne_of_gt hLc) (C0.hid (Nat.le_of_lt hLc))
  refine wpAny_execs_cons (wpAny_Assign_Name (wpAny_List (wpAny_items_nil ⟨by decide, ?_⟩)))
  have C2 := C.push (listOf #[] 0)
  refine e_st C2 fun h3 C3 => ?_
  let c := s.heap.objs.size + 1
  let na := h₁.objs.size
  let env := envOfC (fdOf w 163).qualname (fdOf w 163).scope s.heap.objs.size 163 (fdOf w 163).code
  have cna : na ≠ c := Nat.ne_of_gt (C.lt (a := c) (o := oc) (.head _))
  have C3' := C3.sub (own' := [(na, listOf (([] : List Value)).toArray 0), (c, oc)]) (fun q hq => hq)
  refine wpAny_execs_cons (wpAny_mono (Q := fun fl s' => fl = .next ∧ ∃ h4 us n tk m', s' = { s with heap := h4, toks := tk } ∧ Cx w mg mb s.heap s.heap.objs.size [] m' [(na, listOf us.toArray n), (c, oc)] h4 ∧ IntsAre us (needs1 fo p) ∧ m' "seconds" = some vs ∧ m' "needs" = some (.ref na)) ?_ (fun fl s' hq => ?_) fun _ _ q => q)
  · refine absQE fun Q₁ E₁ hQ₁ => ?_
    refine wpAny_If (wpAny_isTrue_BoolOp (wpAny_allTrue_And_cons (wpAny_isTrue_Compare1 (e_loc C3 rfl (wpAny_Constant_none ?_)))))
    cases fo with
    | none =>
      cases hf
      refine isNot_none (wpAny_truthy_bool ?_)
      exact wpAny_execs_nil (hQ₁ _ _ ⟨rfl, _, [], _, _, _, rfl, C3', .nil, rfl, rfl⟩)
    | some ks =>
      obtain ⟨a, us, n, rfl, ha, hi, hl⟩ := hf
      refine isNot_none (wpAny_truthy_bool ?_)
      have ha3 := C3.keep ha (by simp)
      refine wpAny_allTrue_And_cons (wpAny_isTrue_Compare1 (e_cell C3 (.tail _ (.head _)) hdc (e_loc C3 rfl (notin_ints (isList_of ha3) hi (wpAny_truthy_bool ?_)))))
      by_cases hm : p ∈ ks
      · rw [if_neg (by simp [hm])]
        exact wpAny_execs_nil (hQ₁ _ _ ⟨rfl, _, [], _, _, _, rfl, C3', (by unfold needs1; simp only; rw [if_pos hm]; exact .nil), rfl, rfl⟩)
      · rw [if_pos (by simp [hm])]
        refine wpAny_allTrue_And_nil ?_
        rw [if_pos rfl]
        refine wpAny_execs_cons (wpAny_Expr_any (MethodCall_ (e_loc C3 rfl (getMethod_list_append (C3.get (.head _)) rfl rfl ?_))) (by rfl) (by rfl))
        refine callWith_method1 (wpAny_items_cons (wpAny_BinOp (e_cell C3 (.tail _ (.head _)) hdc (wpAny_Constant_int (sub_int (wpAny_items_nil ?_))))))
        refine wpAny_list_append_plain ⟨_, C3.get (.head _)⟩ (fun h4 hl4 sb4 => ?_) (by decide)
        obtain ⟨n4, hl4⟩ := hl4
        have C4 := C3.chg (.head _) sb4 hl4 (Upd.here (Upd.other cna.symm (.tail _ (.head _)) Upd.nil))
        refine wpAny_execs_nil (hQ₁ _ _ ⟨rfl, _, [.int (p - 1) _], _, _, _, rfl, C4, ?_, rfl, rfl⟩)
        unfold needs1; simp only; rw [if_neg hm]; exact .cons _ _ .nil
  · obtain ⟨rfl, h4, us, n, tk4, m4, rfl, C4, hi4, hm4, hm4'⟩ := hq
    have lenU : us.length ≤ 1 := by
      rw [hi4.length]; unfold needs1
      split
      · simp
      · split <;> simp
    have fin : ∀ (h9 : Heap) (m9 : Str → Option Value) (us9 : List Value) (n9 : Nat) (tk9 : Tok), Cx w mg mb s.heap s.heap.objs.size [] m9 [(na, listOf us9.toArray n9), (c, oc)] h9 → IntsAre us9 (needsF fo so p) → R (.ok (.ret (.ref na))) { s with heap := h9, toks := tk9 } := fun h9 m9 us9 n9 tk9 C9 hi9 => by
      refine h h9 na us9 n9 tk9 (fun b o e => C9.keep e (by simp)) (none_of_ge ?_) (C9.get (.head _)) hi9
      exact Nat.le_trans (Nat.le_of_lt hLc) (Nat.le_of_lt (C.lt (a := c) (o := oc) (.head _)))
    refine wpAny_execs_cons (wpAny_mono (Q := fun fl s' => fl = .next ∧ ∃ h5 us5 n5 tk m', s' = { s with heap := h5, toks := tk } ∧ Cx w mg mb s.heap s.heap.objs.size [] m' [(na, listOf us5.toArray n5), (c, oc)] h5 ∧ IntsAre us5 (needsF fo so p) ∧ m' "needs" = some (.ref na)) ?_ (fun fl s' hq => ?_) fun _ _ q => q)
    · refine absQE fun Q₁ E₁ hQ₁ => ?_
      refine wpAny_If (wpAny_isTrue_BoolOp (wpAny_allTrue_And_cons (wpAny_isTrue_Compare1 (e_loc C4 hm4 (wpAny_Constant_none ?_)))))
      cases so with
      | none =>
        cases hs
        refine isNot_none (wpAny_truthy_bool ?_)
        exact wpAny_execs_nil (hQ₁ _ _ ⟨rfl, _, us, _, _, _, rfl, C4, (by unfold needsF needs2; rw [List.append_nil]; exact hi4), hm4'⟩)
      | some ks =>
        obtain ⟨a, us2, n2, rfl, ha, hi, hl⟩ := hs
        refine isNot_none (wpAny_truthy_bool ?_)
        have ha4 := C4.keep ha (by simp)
        refine wpAny_allTrue_And_cons (wpAny_isTrue_Compare1 (e_cell C4 (.tail _ (.head _)) hdc (e_loc C4 hm4 (in_ints (isList_of ha4) hi (wpAny_truthy_bool ?_)))))
        have stop : ¬ (p ∈ ks ∧ p ≠ 0) → IntsAre us (needsF fo (some ks) p) := fun q => by
          unfold needsF needs2; simp only; rw [if_neg q, List.append_nil]; exact hi4
        by_cases hm : p ∈ ks
        · rw [if_pos (by simp [hm])]
          refine wpAny_allTrue_And_cons (wpAny_isTrue_Compare1 (e_cell C4 (.tail _ (.head _)) hdc (wpAny_Constant_int (ne_int (wpAny_truthy_bool ?_)))))
          by_cases hz : p = 0
          · rw [if_neg (by simp [hz])]
            exact wpAny_execs_nil (hQ₁ _ _ ⟨rfl, _, us, _, _, _, rfl, C4, stop (fun q => q.2 hz), hm4'⟩)
          · rw [if_pos (by simp [hz])]
            refine wpAny_allTrue_And_nil ?_
            rw [if_pos rfl]
            refine wpAny_execs_cons (wpAny_Expr_any (MethodCall_ (e_loc C4 hm4' (getMethod_list_append (C4.get (.head _)) rfl rfl ?_))) (by rfl) (by rfl))
            refine callWith_method1 (wpAny_items_cons (Call_ (e_built (v := .builtin "max") C4 (by with_unfolding_all rfl) (by decide +kernel) (by decide) ?_)))
            refine PyProof.Rows.callWith_builtin1 (wpAny_items_cons ?_)
            refine comp_list (cl := [("place", c)]) (fun v => match v with | .int k _ => decide (k < p) | _ => false) (fun v y => ∃ k t, v = .int k t ∧ y = v) hh (by rfl) (by decide) rfl (by decide) rfl ?_
            have isint : ∀ v ∈ us2.toArray.toList, ∃ k t, v = .int k t ∧ k ∈ ks := fun v hv => by
              obtain ⟨i, hi2⟩ := List.getElem?_of_mem (by simpa using hv)
              obtain ⟨k, t, hk, rfl⟩ := ia_get hi hi2
              exact ⟨k, t, rfl, List.mem_of_getElem? hk⟩
            refine e_loc C4 hm4 ⟨a, _, rfl, isList_of ha4, by rw [List.size_toArray, hi.length]; exact ar53 hl, ?_, ?_, ?_⟩
            · intro B v s₃ m₃ E' hv hn3 hm3 hk3
              obtain ⟨k, t, rfl, _⟩ := isint v hv
              refine wpAny_tests_one (wpAny_isTrue_Compare1 (wpAny_Name (wpAny_loadName_local rfl rfl hn3 hm3 (wpAny_Name (wpAny_loadName_cell rfl rfl rfl ⟨oc, hk3 _ _ (C4.get (.tail _ (.head _))), hdc⟩ ?_) rfl)) rfl))
              exact lt_int (wpAny_truthy_bool ⟨rfl, ⟨_, _, rfl, fun _ _ e => e⟩⟩)
            · intro B v s₃ m₃ E' hv _ hn3 hm3 hk3
              obtain ⟨k, t, rfl, _⟩ := isint v hv
              refine wpAny_Name (wpAny_loadName_local rfl rfl hn3 hm3 ?_) rfl
              exact ⟨⟨k, t, rfl, rfl⟩, ⟨_, _, rfl, fun _ _ e => e⟩⟩
            · intro D' h5 tk5 ys hD hpl hF hk5
              have hys : IntsAre ys.toList (ks.filter fun k => decide (k < p)) := paired_filter (p := fun v => match v with | .int k _ => decide (k < p) | _ => false) (q := fun k => decide (k < p)) (F := fun v y => ∃ k t, v = .int k t ∧ y = v) hi (fun k t => rfl) (fun k t y h => h.elim fun k' h => h.elim fun t' h => ⟨t, h.2⟩) (by simpa using hF)
              obtain ⟨nl, hpl⟩ := hpl
              have C5 : Cx w mg mb s.heap s.heap.objs.size [] m4 [(na, listOf us.toArray n), (c, oc)] h5 := C4.call0 hk5
              have h0m : (0 : Int) ∈ ks.filter fun k => decide (k < p) := List.mem_filter.mpr ⟨h0 ks rfl, by simp; exact ar54 hp hz⟩
              refine wpAny_items_nil (max_list_N hh C5.fr C5.nw (l := D') (vs := ys.toList) ⟨_, hpl, rfl, _, rfl⟩ hys (List.length_pos_of_mem h0m) fun h6 M tM tk6 F6 N6 hM hle => ?_)
              have C6 := C5.of F6 N6
              refine wpAny_items_nil (wpAny_list_append_plain ⟨_, C6.get (.head _)⟩ (fun h7 hl7 sb7 => ?_) (by rw [sizeLine_eq, List.size_toArray]; exact ar55 lenU))
              obtain ⟨n7, hl7⟩ := hl7
              rw [show (us.toArray.push (Value.int M tM)) = (us ++ [Value.int M tM]).toArray from by simp] at hl7
              have C7 := C6.chg (.head _) sb7 hl7 (Upd.here (Upd.other cna.symm (.tail _ (.head _)) Upd.nil))
              refine wpAny_execs_nil (hQ₁ _ _ ⟨rfl, _, us ++ [.int M tM], _, _, _, rfl, C7, ?_, hm4'⟩)
              have eM : M = maxBelow ks p := max_is hM hle (hle 0 h0m)
              unfold needsF needs2
              simp only
              rw [if_pos ⟨hm, hz⟩, ← eM]
              exact hi4.append (.cons _ _ .nil)
        · rw [if_neg (by simp [hm])]
          exact wpAny_execs_nil (hQ₁ _ _ ⟨rfl, _, us, _, _, _, rfl, C4, stop (fun q => hm q.1), hm4'⟩)
    · obtain ⟨rfl, h5, us5, n5, tk5, m5, rfl, C5, hi5, hm5⟩ := hq
      exact wpAny_execs_cons (wpAny_Return_some (e_loc C5 hm5 (hJ₀ _ _ (fin h5 m5 us5 n5 _ C5 hi5))))
end
end Mine

namespace Mine
section
variable {w : World} {mg mb : Str → Option Value} {A : Around} {s : Shared}
theorem sorter_init_spec {R : Result → Shared → Prop} {x dx : Addr} (G : Gd w mg mb s.heap) (hroom : A.depth < recursionLimit) (hx : s.heap.get? x = some (instObj 137 dx)) (hdx : s.heap.get? dx = some emptyDict) (hlow : 181 ≤ dx)
    (h : ∀ h' d t1 t2 t3 t4 tP tF n tk, (∀ b o, s.heap.get? b = some o → b ≠ dx → h'.get? b = some o) → s.heap.objs.size ≤ d → h'.DictOf (ik w) d [] → h'.get? dx = some (dictOf (sEnt w t1 t2 t3 t4 (.ref d) .none (.int 0 tP) (.int 0 tF)) n) → R (.ok (.ret .none)) { s with heap := h', toks := tk }) :
    codeAny (model pg w) A (.call (.ref 73) ⟨[.ref x], []⟩) R s := by
  refine enter (binds := [("self", .ref x), ("graph", .none)]) G hroom rfl (by with_unfolding_all rfl) (binds_K G.X rfl (by with_unfolding_all rfl) rfl rfl rfl) rfl rfl rfl rfl rfl ?_
  intro h₁ hns hk J₀ E₀ hJ₀ hN₀
  have C := Cx.start G hns hk [(dx, emptyDict)] (fun p hp => by rcases List.mem_singleton.mp hp with rfl; exact ⟨hdx, hlow⟩)
  have xne : x ∉ [(dx, emptyDict)].map (·.1) := by
    simp only [List.map_cons, List.map_nil, List.mem_singleton]
    intro e; rw [e, hdx] at hx; cases hx
  refine wpAny_execs_cons (plainObj_wpAny_Assign_Attribute (wpAny_Dict_empty ?_))
  have C2 := C.push { cls := .type "dict", data := .dict #[] }
  have dne : h₁.objs.size ≠ dx := Nat.ne_of_gt (C.lt (.head _))
  refine n_loc C2 rfl ?_
  refine set_dict (od' := dictOf _ _) C2 (C2.keep hx xne) (.tail _ (.head _)) (by with_unfolding_all rfl) (by with_unfolding_all rfl) (by with_unfolding_all rfl) rfl (by show 1 ≤ 1000; decide) fun h3 C3 => ?_
  replace C3 := C3 _ (Upd.here (Upd.other dne (.head _) Upd.nil))
  refine wpAny_execs_cons (plainObj_wpAny_Assign_Attribute (wpAny_Constant_none (n_loc C3 rfl ?_)))
  refine set_dict (od' := dictOf _ _) C3 (C3.keep hx xne) (.head _) (by with_unfolding_all rfl) (by with_unfolding_all rfl) (by with_unfolding_all rfl) rfl (by show 2 ≤ 1000; decide) fun h4 C4 => ?_
  replace C4 := C4 _ (Upd.here (Upd.other dne (.tail _ (.head _)) Upd.nil))
  refine wpAny_execs_cons (plainObj_wpAny_Assign_Attribute (wpAny_Constant_int (n_loc C4 rfl ?_)))
  refine set_dict (od' := dictOf _ _) C4 (C4.keep hx xne) (.head _) (by with_unfolding_all rfl) (by with_unfolding_all rfl) (by with_unfolding_all rfl) rfl (by show 3 ≤ 1000; decide) fun h5 C5 => ?_
  replace C5 := C5 _ (Upd.here (Upd.other dne (.tail _ (.head _)) Upd.nil))
  refine wpAny_execs_cons (plainObj_wpAny_Assign_Attribute (wpAny_Constant_int (n_loc C5 rfl ?_)))
  refine set_dict (od' := dictOf (sEnt w _ _ _ _ (.ref h₁.objs.size) .none (.int 0 _) (.int 0 _)) _) C5 (C5.keep hx xne) (.head _) (by with_unfolding_all rfl) (by with_unfolding_all rfl) (by with_unfolding_all rfl) rfl (by show 4 ≤ 1000; decide) fun h6 C6 => ?_
  replace C6 := C6 _ (Upd.here (Upd.other dne (.tail _ (.head _)) Upd.nil))
  refine wpAny_execs_cons (wpAny_If (wpAny_isTrue_Compare1 (n_loc C6 rfl (wpAny_Constant_none (isNot_none (wpAny_truthy_bool (wpAny_execs_nil (wpAny_execs_nil ?_))))))))
  exact hN₀ _ (h h6 h₁.objs.size _ _ _ _ _ _ _ _ (fun b o e hb => C6.keep e (by simpa using hb)) (Nat.le_of_lt C.ns.lt) (dictOf_mv (Heap.DictOf.new h₁) (C2.get (.head _)) (C6.get (.tail _ (.head _)))) (C6.get (.head _)))
end
end Mine

namespace Mine
section
variable {w : World} {mg mb : Str → Option Value} {g : Heap} {L : Addr} {D : List Addr} {s : Shared} {A : Around} {E : Value → Shared → Prop} {x : Str} {env : Env}
structure RangeI (w : World) (mg mb : Str → Option Value) (g : Heap) (L : Addr) (D : List Addr) (s : Shared) (N : Nat) (it : Addr) (Inv : Nat → (Str → Option Value) → List (Addr × Obj) → Prop) (j : Nat) (s' : Shared) (i : Nat) (h' : Heap) (tk : Nat) (gn : Array GenState) (m' : Str → Option Value) (own' : List (Addr × Obj)) (oi : Obj) : Prop where
  hs : s' = { s with heap := h', toks := tk, gens := gn }
  hj : j + i = N
  hb : AllBare s.gens → AllBare gn
  C : Cx w mg mb g L D m' ((it, oi) :: own') h'
  hi : Inv i m' own'
  hne : ∀ p ∈ own', p.1 ≠ it
  ho : oi = { cls := .type "range_iterator", data := .fields #[rawInt (i : Nat), rawInt ((N : Int) - (i : Nat)), rawInt 1] }
/-- a for over range(N), by an invariant over the locals and the known objects -/
theorem for_range {N : Nat} {px pf : Pos} {body : List Stmt} {iter : Expr} {Q : Flow → Shared → Prop} (hh : A.handled = none) (hN : N ≤ 1000) (Inv : Nat → (Str → Option Value) → List (Addr × Obj) → Prop)
    (hiter : wpAny (model pg w) A (eval iter env) (fun v s₁ => ∃ h₁ tk r t u v' m own, s₁ = { s with heap := h₁, toks := tk } ∧ v = .ref r ∧ IsRange h₁ r 0 N 1 t u v' ∧ Cx w mg mb g L D m own h₁ ∧ Inv 0 m own) E s)
    (step : ∀ i m0 own' h' tk gn it oi tx (J : Flow → Shared → Prop) E', i < N → (AllBare s.gens → AllBare gn) → Cx w mg mb g L D (fun y => if y = x then some (.int (i : Nat) tx) else m0 y) ((it, oi) :: own') h' → Inv i m0 own' → (∀ p ∈ own', p.1 ≠ it) → oi.cls = .type "range_iterator" →
      (∀ h'' tk'' gn'' m'' own'', (AllBare s.gens → AllBare gn'') → Cx w mg mb g L D m'' ((it, oi) :: own'') h'' → Inv (i + 1) m'' own'' → (∀ p ∈ own'', p.1 ≠ it) → J .next { s with heap := h'', toks := tk'', gens := gn'' }) →
      wpAny (model pg w) A (execs body env) J E' { s with heap := h', toks := tk, gens := gn })
    (fin : ∀ m' own' h' tk gn, (AllBare s.gens → AllBare gn) → Cx w mg mb g L D m' own' h' → Inv N m' own' → Q .next { s with heap := h', toks := tk, gens := gn })
    (hL : env.locals = L := by rfl) (hk : env.scope.kind = .function := by rfl) (hlx : env.kindOf x = some .local := by rfl) (hs : ∀ v, foldedSetIterable iter env v = pure v := by intro _; rfl) :
    wpAny (model pg w) A (exec (.For (.Name x px) iter body [] pf) env) Q E s := by
  refine wpAny_For (wpAny_mono hiter (fun v s₁ h₁ => ?_) fun _ _ q => q) hs
  obtain ⟨h₁, tk, r, t, u, v', m, own, rfl, rfl, hr, C, hi⟩ := h₁
  refine wpAny_pyIter_range hr (by unfold Builtin.Range.small Builtin.Range.rangeFitsLong Builtin.Range.rangeSize; simp; omega) ?_
  have C2 := C.push { cls := .type "range_iterator", data := .fields #[rawInt 0, rawInt (Builtin.Range.rangeSize 0 N 1), rawInt 1] }
  have hsz : Builtin.Range.rangeSize 0 N 1 = N := by unfold Builtin.Range.rangeSize; simp; exact ar182
  rw [hsz] at C2
  refine forL (fun j s' => ∃ i h' tk gn m' own' oi, RangeI w mg mb g L D s N h₁.objs.size Inv j s' i h' tk gn m' own' oi) ?_ N ⟨0, _, _, _, m, own, _, by rw [hsz], by exact ar178, id, C2, hi, fun p hp => Nat.ne_of_lt (C.lt (a := p.1) (o := p.2) hp), by simp⟩
  rintro j s' J F₁ E₁ ⟨i, h', tk', gn, m', own', oi, rfl, hj, hb, C', hi', hne, rfl⟩ hJ hF hV
  by_cases hlt : i < N
  · refine wpAny_pyNext_range_item (C'.get (.head _)) (by exact ar183 hlt) fun h2 hit sb => ?_
    have C3 := C'.chg (.head _) sb hit (Upd.here (Upd.rest fun p hp => ⟨hne p hp, .tail _ hp⟩))
    refine e_as C3 (fun h3 C4 => ?_) hL hk hlx
    refine step i m' own' h3 _ gn h₁.objs.size _ _ J E₁ hlt hb C4 hi' hne rfl fun h'' tk'' gn'' m'' own'' hb'' C'' hi'' hne'' => (hJ (j - 1) _ (by exact ar109 hj hlt) ⟨i + 1, h'', tk'', gn'', m'', own'', _, rfl, by exact ar110 hj hlt, hb'', C'', hi'', hne'', ?_⟩).1
    simp only [rawInt]
    congr 4
    rw [show ((N : Int) - (i : Int) - 1) = (N : Int) - ((i + 1 : Nat) : Int) by exact ar184]
  · have : i = N := by exact ar180 hj hlt
    subst this
    refine wpAny_pyNext_range_end hh (C'.get (.head _)) (by exact ar185) fun h2 ext => (hF _ ?_).1
    refine fin m' own' h2 _ gn hb ?_ hi'
    exact C'.call (D' := [h₁.objs.size]) (fun b o e q => ext b o (by simpa using q) e) (fun a ha => by rcases List.mem_singleton.mp ha with rfl; exact ⟨_, .head _⟩) fun p hp => .inl ⟨.tail _ hp, by simpa using hne p hp⟩
end
end Mine

namespace Mine
def readyC (c : Ct) : List Int := (c.filter fun e => e.2.1 == 0).map (·.1)
theorem ready_ct (ns : List Nd) : readyOf ns = readyC (ct ns) := by
  unfold readyOf readyC ct
  rw [List.filter_map, List.map_map]
  rfl
def graphTo (fo so : Option (List Int)) (i : Nat) : Ct := (List.range i).foldl (fun c (j : Nat) => addF c (11 - (j : Int)) (needsF fo so (11 - (j : Int)))) []
abbrev graphOf (fo so : Option (List Int)) : Ct := graphTo fo so 12
theorem graph_succ (fo so : Option (List Int)) (i : Nat) : graphTo fo so (i + 1) = addF (graphTo fo so i) (11 - (i : Int)) (needsF fo so (11 - (i : Int))) := by
  unfold graphTo; rw [List.range_succ, List.foldl_append]; rfl
theorem needs_len (fo so : Option (List Int)) (p : Int) : (needsF fo so p).length ≤ 2 := by
  unfold needsF
  rw [List.length_append]
  have h1 : (needs1 fo p).length ≤ 1 := by unfold needs1; split; · simp
                                           · split <;> simp
  have h2 : (needs2 so p).length ≤ 1 := by unfold needs2; split; · simp
                                           · split <;> simp
  exact ar97 h1 h2
theorem ensure_len (c : Ct) (k : Int) : (ensure c k).length ≤ c.length + 1 := by
  unfold ensure; split
  · exact ar98
  · rw [List.length_append]; simp
theorem addF_len (c : Ct) (k : Int) (ps : List Int) : (addF c k ps).length ≤ c.length + 1 + ps.length := by
  unfold addF
  have : ∀ (ps : List Int) (c : Ct), (ps.foldl (fun c p => app1 (ensure c p) p k) c).length ≤ c.length + ps.length := by
    intro ps
    induction ps with
    | nil => intro c; simp
    | cons p ps ih =>
      intro c
      rw [List.foldl_cons]
      have h1 := ih (app1 (ensure c p) p k)
      have h2 : (app1 (ensure c p) p k).length = (ensure c p).length := List.length_map ..
      have h3 := ensure_len c p
      rw [List.length_cons]; exact ar99 h1 h2 h3
  have h1 := this ps (bump (ensure c k) k ps.length)
  have h2 : (bump (ensure c k) k ps.length).length = (ensure c k).length := List.length_map ..
  have h3 := ensure_len c k
  exact ar100 h1 h2 h3
theorem addF_sn {c : Ct} {k : Int} {ps : List Int} {B : Nat} (h : ∀ e ∈ c, e.2.2.length ≤ B) : ∀ e ∈ addF c k ps, e.2.2.length ≤ B + ps.length := by
  unfold addF
  have : ∀ (ps : List Int) (c : Ct) (B : Nat), (∀ e ∈ c, e.2.2.length ≤ B) → ∀ e ∈ ps.foldl (fun c p => app1 (ensure c p) p k) c, e.2.2.length ≤ B + ps.length := by
    intro ps
    induction ps with
    | nil => intro c B h; simpa using h
    | cons p ps ih =>
      intro c B h e he
      rw [List.foldl_cons] at he
      have := ih (app1 (ensure c p) p k) (B + 1) (fun e he => by
        unfold app1 at he
        obtain ⟨e', he', rfl⟩ := List.mem_map.mp he
        have hb := ensure_all (P := fun e => e.2.2.length ≤ B) h (Nat.zero_le _) e' he'
        split
        · simp; exact ar101 hb
        · exact ar102 hb) e he
      rw [List.length_cons]; exact ar103 this
  refine this ps _ B fun e he => ?_
  unfold bump at he
  obtain ⟨e', he', rfl⟩ := List.mem_map.mp he
  have hb := ensure_all (P := fun e => e.2.2.length ≤ B) h (Nat.zero_le _) e' he'
  split <;> exact hb
theorem graph_len (fo so : Option (List Int)) : ∀ i, (graphTo fo so i).length ≤ 3 * i
  | 0 => by simp [graphTo]
  | i + 1 => by
    rw [graph_succ]
    have h1 := addF_len (graphTo fo so i) (11 - (i : Int)) (needsF fo so (11 - (i : Int)))
    have h2 := needs_len fo so (11 - (i : Int))
    have h3 := graph_len fo so i
    exact ar104 h1 h2 h3
theorem graph_sn (fo so : Option (List Int)) : ∀ i, ∀ e ∈ graphTo fo so i, e.2.2.length ≤ 2 * i
  | 0 => by simp [graphTo]
  | i + 1 => fun e he => by
    rw [graph_succ] at he
    have h1 := addF_sn (graph_sn fo so i) e he
    have h2 := needs_len fo so (11 - (i : Int))
    exact ar105 h1 h2
section
variable {w : World} {mg mb : Str → Option Value} {A : Around} {s : Shared} {outer : List Env} {fr : List (Addr × Obj)} {fo so : Option (List Int)} {vf vs : Value}
theorem sorter_make_spec {R : Result → Shared → Prop} (G : Gd w mg mb s.heap) (hroom : A.depth + 1 < recursionLimit) (hlow : 181 ≤ s.heap.objs.size)
    (h : ∀ h' x dx d t1 t2 t3 t4 tP tF n tk, (∀ b o, s.heap.get? b = some o → h'.get? b = some o) → s.heap.objs.size ≤ dx → dx < x → x < d → h'.get? x = some (instObj 137 dx) → h'.DictOf (ik w) d [] → h'.get? dx = some (dictOf (sEnt w t1 t2 t3 t4 (.ref d) .none (.int 0 tP) (.int 0 tF)) n) →
      R (.ok (.ret (.ref x))) { s with heap := h', toks := tk }) :
    codeAny (model pg w) A (.call (.ref 137) ⟨[], []⟩) R s := by
  obtain ⟨hp, gs, d, t, os⟩ := s
  have hi : findIn (Kf w) (.ref 137) "__init__" = some (some (.ref 73)) := by with_unfolding_all rfl
  have hf : typeIn (Kf w) (.ref 73) = some (.type "function") := by with_unfolding_all rfl
  refine make_core (makes_of G.X (by with_unfolding_all rfl)) (looks_findIn G.X hi) (fun self => bind_fn G.X self hf) (.inl rfl) ?_
  have hk : ∀ b o, hp.get? b = some o → ((hp.push emptyDict).push (instObj 137 hp.objs.size)).get? b = some o := fun b o e => Heap.get?_push_of_some _ (Heap.get?_push_of_some _ e)
  have hX : ((hp.push emptyDict).push (instObj 137 hp.objs.size)).get? (hp.objs.size + 1) = some (instObj 137 hp.objs.size) := by heap_get
  have hD : ((hp.push emptyDict).push (instObj 137 hp.objs.size)).get? hp.objs.size = some emptyDict := by heap_get
  refine sorter_init_spec (dx := hp.objs.size) (G.keeps fun b o _ e => hk b o e) hroom hX hD hlow ?_
  intro h' d t1 t2 t3 t4 tP tF n tk k1 k2 k3 k4
  refine ⟨rfl, h h' _ hp.objs.size d t1 t2 t3 t4 tP tF n tk (fun b o e => k1 b o (hk b o e) (Nat.ne_of_lt (Heap.lt_size e))) (Nat.le_refl _) (Nat.lt_succ_self _) ?_ (k1 _ _ hX (Nat.ne_of_gt (Nat.lt_succ_self _))) k3 k4⟩
  have : hp.objs.size + 2 ≤ d := by simpa [Heap.size_push] using k2
  exact ar106 this
theorem Nds.cx' {h h' g' : Heap} {L' : Addr} {D' : List Addr} {m' : Str → Option Value} {rest' : List (Addr × Obj)} {d : Addr} {od : Obj} {ns : List Nd} (N : Nds w h d ns) (hd : h.get? d = some od) (C' : Cx w mg mb g' L' D' m' ((d, od) :: (objsOf ns ++ rest')) h') : Nds w h' d ns where
  dict := by
    obtain ⟨o, es, ep, ho, r⟩ := N.dict
    rw [ho] at hd; cases hd
    exact ⟨_, es, ep, C'.get (.head _), r⟩
  info := fun n hn => C'.get (List.mem_cons_of_mem _ (List.mem_append_left _ (objs_info hn)))
  lst := fun n hn => C'.get (List.mem_cons_of_mem _ (List.mem_append_left _ (objs_lst hn)))
  dd := fun n hn => C'.get (List.mem_cons_of_mem _ (List.mem_append_left _ (objs_dd hn)))
  iv := N.iv
  li := N.li
  ll := N.ll
  lda := N.lda
  inj := N.inj
  dne := N.dne
  len := N.len
end
end Mine

namespace Mine
section
variable {w : World} {mg mb : Str → Option Value} {A : Around} {s : Shared} {outer : List Env} {fr : List (Addr × Obj)} {fo so : Option (List Int)} {vf vs : Value} {gs : List (List Int)}
theorem Cx.genForm {g : Heap} {L : Addr} {D : List Addr} {m : Str → Option Value} {h : Heap} {a d : Addr} {oa od : Obj} {ns : List Nd} {q : Addr × Obj} {rest : List (Addr × Obj)} (C : Cx w mg mb g L D m ((a, oa) :: (d, od) :: (objsOf ns ++ (q :: rest))) h) :
    Cx w mg mb g L D m ((d, od) :: (objsOf ns ++ (q :: (a, oa) :: rest))) h := C.sub fun p hp => by
  rcases List.mem_cons.mp hp with rfl | hp
  · exact .tail _ (.head _)
  · rcases List.mem_append.mp hp with hp | hp
    · exact .tail _ (.tail _ (List.mem_append_left _ hp))
    · rcases List.mem_cons.mp hp with rfl | hp
      · exact .tail _ (.tail _ (List.mem_append_right _ (.head _)))
      · rcases List.mem_cons.mp hp with rfl | hp
        · exact .head _
        · exact .tail _ (.tail _ (List.mem_append_right _ (.tail _ hp)))
theorem order_spec {R : Result → Shared → Prop} (G : Gd w mg mb s.heap) (hh : A.handled = none) (hroom : A.depth + 40 < recursionLimit) (hA : A.frames = some outer) (O : Ofs outer fr) (hfr : ∀ p ∈ fr, s.heap.get? p.1 = some p.2 ∧ 181 ≤ p.1) (hfd : ∀ p ∈ fr, ∀ xs n, p.2.data ≠ .seq xs n)
    (hf : Opt s.heap vf fo) (hs : Opt s.heap vs so) (h0 : ∀ ks, so = some ks → 0 ∈ ks) (hbig : 181 ≤ s.heap.objs.size)
    (hgr : Run (graphOf fo so) (readyC (graphOf fo so)) gs) (hup : ∀ e ∈ graphOf fo so, ∀ p ∈ e.2.2, e.1 < p ∧ p ∈ (graphOf fo so).map (·.1)) (hol : gs.flatten.length ≤ 1000)
    (h : ∀ h' a us n tk fr' gn, Marked fr fr' → (∀ p ∈ fr', h'.get? p.1 = some p.2) → (∀ b o, s.heap.get? b = some o → b ∉ fr.map (·.1) → h'.get? b = some o) → s.heap.get? a = none → h'.get? a = some (listOf us.toArray n) → IntsAre us gs.flatten →
      (AllBare s.gens → AllBare gn) → R (.ok (.ret (.ref a))) { s with heap := h', toks := tk, gens := gn }) :
    codeAny (model pg w) A (.call (.ref 175) ⟨[vf, vs], []⟩) R s := by
  refine enter (binds := [("firsts", vf), ("seconds", vs)]) G (by exact ar194 hroom) rfl (by with_unfolding_all rfl) (BindsTo.of_eq rfl) rfl rfl rfl rfl rfl ?_
  intro h₁ hns hk J₀ E₀ hJ₀ hN₀
  have C := Cx.start G hns hk fr hfr
  have Cst := C
  have big : ∀ {m own h}, Cx w mg mb s.heap s.heap.objs.size (fr.map (·.1)) m own h → 181 ≤ h.objs.size := fun C => Nat.le_trans hbig (Nat.le_of_lt C.ns.lt)
  have optK : ∀ {m own h v o}, Cx w mg mb s.heap s.heap.objs.size (fr.map (·.1)) m own h → Opt s.heap v o → Opt h v o := fun {m own h v o} C x => by
    cases o with
    | none => exact x
    | some ks =>
      obtain ⟨a, us, n, e, ha, r⟩ := x
      refine ⟨a, us, n, e, C.keep ha fun q => ?_, r⟩
      obtain ⟨p, hp, e⟩ := List.mem_map.mp q
      have := (hfr p hp).1
      rw [e, ha] at this
      exact hfd p hp us.toArray n (by rw [← Option.some.inj this])
  refine wpAny_execs_cons (wpAny_Assign_Name (Call_ (n_glob (v := .ref 137) C (by with_unfolding_all rfl) ?_)))
  refine callWith_K0 C.G.X (by with_unfolding_all rfl) (wpAny_call (sorter_make_spec C.G (by show A.depth + 1 + 1 < _; exact ar195 hroom) (big C) ?_))
  intro h2 x dx d t1 t2 t3 t4 tP tF n1 tk2 k1 k2 k3 k4 hx hd hdx
  obtain ⟨od, es, ep, hod, rod⟩ := id hd
  have k2 : h₁.objs.size ≤ dx := k2
  let odx := dictOf (sEnt w t1 t2 t3 t4 (.ref d) .none (.int 0 tP) (.int 0 tF)) n1
  have C2 : Cx w mg mb s.heap s.heap.objs.size (fr.map (·.1)) _ ((d, od) :: (objsOf [] ++ ((x, instObj 137 dx) :: (dx, odx) :: fr))) h2 := C.call (D' := []) (fun b o e _ => k1 b o e) (fun _ q => nomatch q) fun p hp => by
    simp only [objsOf, List.flatMap_nil, List.nil_append, List.mem_cons] at hp
    rcases hp with rfl | rfl | rfl | hp
    · exact .inr ⟨hod, .inr (none_of_ge (Nat.le_trans k2 (Nat.le_of_lt (Nat.lt_trans k3 k4))))⟩
    · exact .inr ⟨hx, .inr (none_of_ge (Nat.le_trans k2 (Nat.le_of_lt k3)))⟩
    · exact .inr ⟨hdx, .inr (none_of_ge k2)⟩
    · exact .inl ⟨hp, by simp⟩
  have lowh : 181 ≤ h₁.objs.size := big C
  have ldx : 181 ≤ dx := Nat.le_trans lowh k2
  have lx : 181 ≤ x := Nat.le_trans ldx (Nat.le_of_lt k3)
  have ld : 181 ≤ d := Nat.le_trans lx (Nat.le_of_lt k4)
  have ddx : d ≠ dx := Nat.ne_of_gt (Nat.lt_trans k3 k4)
  have dnew : s.heap.get? d = none := none_of_ge (Nat.le_trans (Nat.le_of_lt C.ns.lt) (Nat.le_trans k2 (Nat.le_of_lt (Nat.lt_trans k3 k4))))
  refine s_loc C2 fun h3 C3 => ?_
  have N0 : Nds w h2 d [] := ⟨hd, by simp, by simp, by simp, by simp, by simp, by simp, by simp, by simp, by simp, by simp⟩
  let Inv : Nat → (Str → Option Value) → List (Addr × Obj) → Prop := fun i m own => ∃ od ns, own = (d, od) :: (objsOf ns ++ ((x, instObj 137 dx) :: (dx, odx) :: fr)) ∧ (∃ h, Nds w h d ns ∧ h.get? d = some od) ∧ (∀ p ∈ (d, od) :: objsOf ns, s.heap.get? p.1 = none) ∧ ct ns = graphTo fo so i ∧ m "sorter" = some (.ref x) ∧ m "firsts" = some vf ∧ m "seconds" = some vs
  refine wpAny_execs_cons (for_range (N := 12) (g := s.heap) (D := fr.map (·.1)) (mg := mg) (mb := mb) hh (by decide) Inv ?_ ?_ ?_)
  · refine Call_ (n_built (v := .type "range") C3 (by with_unfolding_all rfl) (by decide +kernel) (by decide) ?_)
    refine PyProof.Rows.callWith_type1 (wpAny_items_cons (wpAny_Constant_int (wpAny_items_nil (call_range_1 ?_))))
    exact ⟨_, _, _, _, _, _, _, _, rfl, rfl, (C3.push _).get (.head _), (C3.push _).sub fun p hp => .tail _ hp, od, [], rfl, ⟨h2, N0, hod⟩, (fun p hp => by rcases List.mem_singleton.mp hp with rfl; exact dnew), rfl, rfl, rfl, rfl⟩
  · intro i m0 own' h' tk gn it oi tx J E' hi hb C hinv hne hoi hJ
    obtain ⟨od, ns, rfl, ⟨hN, N, hdN⟩, hnw, hct, hm1, hm2, hm3⟩ := hinv
    have Ca : Cx w mg mb s.heap s.heap.objs.size (fr.map (·.1)) _ ((d, od) :: (objsOf ns ++ ((x, instObj 137 dx) :: (dx, odx) :: (it, oi) :: fr))) h' := C.sub fun p hp => by
      simp only [List.mem_cons, List.mem_append] at hp ⊢
      rcases hp with h | h | h | h | h | h
      all_goals simp [h]
    have Na := N.cx' hdN Ca
    have xm : ∀ {od ns o l}, (x, o) ∈ (d, od) :: (objsOf ns ++ ((x, o) :: l)) := .tail _ (List.mem_append_right _ (.head _))
    have dxm : ∀ {od ns o o' l}, (dx, o) ∈ (d, od) :: (objsOf ns ++ ((x, o') :: (dx, o) :: l)) := .tail _ (List.mem_append_right _ (.tail _ (.head _)))
    have lns : ns.length ≤ 3 * i := by have := graph_len fo so i; rw [← hct] at this; unfold ct at this; rw [List.length_map] at this; exact this
    have sns : ∀ n ∈ ns, n.sn.length ≤ 2 * i := fun n hn => graph_sn fo so i _ (hct ▸ mem_ct hn)
    refine wpAny_execs_cons (wpAny_Expr_any (StarMethod_ (n_loc Ca hm1 (get_meth (fa := 87) Ca.G (Ca.get xm) (Ca.get dxm) (by with_unfolding_all rfl) (by with_unfolding_all rfl) (by with_unfolding_all rfl) ?_))) (by rfl) (by rfl))
    have Cb := Ca.push (methodObj (.ref 87) (.ref x))
    refine callWith_SM2 (fa := 87) (self := .ref x) (by with_unfolding_all rfl) (wpAny_items_cons (wpAny_BinOp (wpAny_Constant_int (n_loc Cb rfl (sub_int ?_)))))
    refine items_star (Call_ (n_glob (v := .ref 163) Cb (by with_unfolding_all rfl) ?_))
    refine callWith_K Cb.G.X (by with_unfolding_all rfl) (wpAny_items_cons (wpAny_BinOp (wpAny_Constant_int (n_loc Cb rfl (sub_int (wpAny_items_cons (n_loc Cb hm2 (wpAny_items_cons (n_loc Cb hm3 (wpAny_items_nil ⟨Cb.G.X, ?_⟩))))))))))
    refine wpAny_call (needs_spec Cb.G hh (by show A.depth + 1 + 5 < _; exact ar196 hroom) (optK Cb hf) (optK Cb hs) h0 (by exact ar197 hi) ?_)
    intro h4 na us n4 tk4 hk4 hna hna4 hi4
    have naL : na ≠ s.heap.objs.size := fun e => by
      obtain ⟨oL, _, _, hoL, _⟩ := Cb.ns
      have hna : (h'.push (methodObj (.ref 87) (.ref x))).get? na = none := hna
      rw [e, hoL] at hna; cases hna
    have nah : (hideAll s.heap (fr.map (·.1))).get? na = none := by
      cases q : (hideAll s.heap (fr.map (·.1))).get? na with
      | none => rfl
      | some o => have := Cb.fr.keep _ _ q; have hna : (h'.push (methodObj (.ref 87) (.ref x))).get? na = none := hna; rw [hna] at this; cases this
    have Cc := (Cb.call0 hk4).add hna4 naL nah
    have usl : us.length ≤ 2 := by rw [hi4.length]; exact needs_len _ _ _
    refine star_seq (ws := us) Cc.fr Cc.nw (.head _) rfl rfl (.inl rfl) (by simp) (by rw [List.size_toArray, sizeLine_eq]; exact ar141 usl) fun h5 F5 N5 => wpAny_items_nil ?_
    have Cd := Cc.of F5 N5
    have Ce := Cd.sub fun p hp => List.mem_cons_of_mem _ (List.mem_cons_of_mem _ hp)
    have Ne := N.cx' hdN Ce
    refine ⟨⟨Cd.get (.tail _ (.head _)), Cd.G.X⟩, wpAny_call (method_call (Cd.get (.tail _ (.head _))) ?_)⟩
    show codeAny _ _ (.call (.ref 87) ⟨.ref x :: Value.int (11 - (i : Int)) _ :: (us ++ []), []⟩) _ _
    rw [List.append_nil]
    refine add_spec (pv := us) (ns := ns) Ce.G hh ?_ (big Ce) (Ce.get xm) (Ce.get dxm) Ne ld ddx ?_ hi4 (needs_len _ _ _) (by exact ar198 hi lns) (fun n hn => by have := sns n hn; exact ar199 hi this) ?_
    · show A.depth + 1 + 5 < _; exact ar196 hroom
    · intro n hn e
      have e1 := Ce.get (a := dx) dxm
      have e2 := Ne.dd n hn
      rw [← e, e1] at e2
      simp [odx] at e2
    intro h6 ns6 tk6 N6 hct6 hk6 hnew6
    obtain ⟨od6, es6, ep6, hod6, r6⟩ := id N6.dict
    have fpne : ∀ p ∈ (x, instObj 137 dx) :: (dx, odx) :: (it, oi) :: fr, p.1 ∉ d :: (objsOf ns).map (·.1) := fun p hp q => by
      have hpm : p ∈ (d, od) :: (objsOf ns ++ ((x, instObj 137 dx) :: (dx, odx) :: (it, oi) :: fr)) := .tail _ (List.mem_append_right _ hp)
      have e1 := Ce.get (a := p.1) (o := p.2) hpm
      have cl : ∀ {o : Obj}, h5.get? p.1 = some o → o = p.2 := fun e => Option.some.inj (e.symm.trans e1)
      have isfr : p ∈ fr → False := fun hp => by
        have e2 := (hfr p hp).1
        rcases List.mem_cons.mp q with q | q
        · have := hnw (d, od) (.head _); rw [← q, e2] at this; cases this
        · obtain ⟨p', hp', q⟩ := List.mem_map.mp q
          have := hnw p' (.tail _ hp'); rw [q, e2] at this; cases this
      simp only [List.mem_cons] at hp
      rcases List.mem_cons.mp q with q | q
      · have e2 := cl (q ▸ Ce.get (a := d) (.head _))
        have e3 := Ne.odcls (Ce.get (.head _))
        rcases hp with rfl | rfl | rfl | hp
        · rw [e2] at e3; cases e3
        · exact ddx q.symm
        · rw [e2] at e3; rw [show (it, oi).2.cls = _ from hoi] at e3; simp at e3
        · exact isfr hp
      · obtain ⟨p', hp', q⟩ := List.mem_map.mp q
        have e2 := cl (q ▸ Ce.get (a := p'.1) (o := p'.2) (.tail _ (List.mem_append_left _ hp')))
        rcases hp with rfl | rfl | rfl | hp
        · rcases cls_objs hp' with z | z | z <;> rw [e2] at z <;> cases z
        · obtain ⟨n, hn, rfl | rfl | rfl⟩ := mem_objs hp'
          · simp [odx] at e2
          · simp [odx] at e2
          · simp [odx] at e2
        · rcases cls_objs hp' with z | z | z <;> rw [e2, show (it, oi).2.cls = _ from hoi] at z <;> simp at z
        · exact isfr hp
    have Cf : Cx w mg mb s.heap s.heap.objs.size (fr.map (·.1)) _ ((d, od6) :: (objsOf ns6 ++ ((x, instObj 137 dx) :: (dx, odx) :: (it, oi) :: fr))) h6 := Ce.call (D' := d :: (objsOf ns).map (·.1)) hk6 (fun a ha => by
        rcases List.mem_cons.mp ha with rfl | ha
        · exact ⟨_, .head _⟩
        · obtain ⟨p, hp, rfl⟩ := List.mem_map.mp ha; exact ⟨p.2, .tail _ (List.mem_append_left _ hp)⟩) fun p hp => by
      rcases List.mem_cons.mp hp with rfl | hp
      · exact .inr ⟨hod6, .inl (.head _)⟩
      · rcases List.mem_append.mp hp with hp | hp
        · have hg : h6.get? p.1 = some p.2 := by
            obtain ⟨n, hn, rfl | rfl | rfl⟩ := mem_objs hp
            · exact N6.info n hn
            · exact N6.lst n hn
            · exact N6.dd n hn
          exact .inr ⟨hg, hnew6 p hp⟩
        · exact .inl ⟨.tail _ (List.mem_append_right _ hp), fpne p hp⟩
    refine wpAny_execs_nil (hJ h6 _ gn _ ((d, od6) :: (objsOf ns6 ++ ((x, instObj 137 dx) :: (dx, odx) :: fr))) hb (Cf.sub fun p hp => ?_) ⟨od6, ns6, rfl, ⟨h6, N6, hod6⟩, ?_, by rw [hct6, hct, graph_succ], hm1, hm2, hm3⟩ ?_)
    · simp only [List.mem_cons, List.mem_append] at hp ⊢
      rcases hp with h | h | h | h | h | h
      all_goals simp [h]
    · intro p hp
      rcases List.mem_cons.mp hp with rfl | hp
      · exact dnew
      · rcases hnew6 p hp with q | q
        · rcases List.mem_cons.mp q with q | q
          · rw [q]; exact dnew
          · obtain ⟨p', hp', q⟩ := List.mem_map.mp q
            rw [← q]; exact hnw p' (.tail _ hp')
        · cases e : s.heap.get? p.1 with
          | none => rfl
          | some o =>
            have q : h5.get? p.1 = none := q
            by_cases z : p.1 ∈ fr.map (·.1)
            · obtain ⟨p', hp', z⟩ := List.mem_map.mp z
              have := Ce.get (a := p'.1) (o := p'.2) (.tail _ (List.mem_append_right _ (.tail _ (.tail _ (.tail _ hp')))))
              rw [z, q] at this; cases this
            · rw [Ce.keep e z] at q; cases q
    · intro p hp
      have itm : (it, oi) ∈ (d, od6) :: (objsOf ns6 ++ ((x, instObj 137 dx) :: (dx, odx) :: (it, oi) :: fr)) := .tail _ (List.mem_append_right _ (.tail _ (.tail _ (.head _))))
      rcases List.mem_cons.mp hp with rfl | hp
      · exact Cf.apart itm (.head _) (by rw [show (d, od6).2.cls = _ from N6.odcls hod6, hoi]; simp)
      · rcases List.mem_append.mp hp with hp | hp
        · refine Cf.apart itm (.tail _ (List.mem_append_left _ hp)) ?_
          rw [hoi]
          rcases cls_objs hp with z | z | z <;> rw [z] <;> simp
        · exact hne p (.tail _ (List.mem_append_right _ hp))
  · intro m' own' h' tk gn hb C hinv
    obtain ⟨od, ns, rfl, ⟨hN, N, hdN⟩, hnw, hct, hm1, hm2, hm3⟩ := hinv
    have xm : ∀ {od ns o l}, (x, o) ∈ (d, od) :: (objsOf ns ++ ((x, o) :: l)) := .tail _ (List.mem_append_right _ (.head _))
    have dxm : ∀ {od ns o o' l}, (dx, o) ∈ (d, od) :: (objsOf ns ++ ((x, o') :: (dx, o) :: l)) := .tail _ (List.mem_append_right _ (.tail _ (.head _)))
    have frm : ∀ {p}, p ∈ fr → p ∈ (d, od) :: (objsOf ns ++ ((x, instObj 137 dx) :: (dx, odx) :: fr)) := fun hp => .tail _ (List.mem_append_right _ (.tail _ (.tail _ hp)))
    have Na := N.cx' hdN C
    refine wpAny_execs_cons (wpAny_Return_some (Call_ (n_built (v := .type "list") C (by with_unfolding_all rfl) (by decide +kernel) (by decide) ?_)))
    refine PyProof.Rows.callWith_type1 (wpAny_items_cons (MethodCall_ (n_loc C hm1 (me_fn C.G (C.get xm) (C.get dxm) (by with_unfolding_all rfl) (by with_unfolding_all rfl) (by with_unfolding_all rfl) ?_))))
    have room : ∀ k, k < 40 → (A.deeper (envAt w 175 s.heap.objs.size)).depth + k < recursionLimit := fun k hk => by show A.depth + 1 + k < _; exact ar200 hroom hk
    refine callWith_K0 C.G.X (by with_unfolding_all rfl) (wpAny_call (codeAny_call_generator (room 0 (by decide)) (C.G.X 134 _ rfl) rfl rfl rfl rfl (codeRec_of C.G.X (by with_unfolding_all rfl)) ?_))
    refine wpAny_of_eq (a := ([("self", Value.ref x)] : List (Str × Value))) rfl ?_
    refine wpAny_newFunctionEnv (fun y hy => ?_) (locs rfl) (fun h₀ hns₀ hsb₀ => ⟨Heap.NoLimit.fresh C.G.lim _ hsb₀, ?_⟩) rfl
    · have : ((fdOf w 134).scope.names.all fun x => x.2 != .cell) = true := rfl
      have := List.all_eq_true.mp this y hy
      simpa using this
    have hk₀ : ∀ b o, h'.get? b = some o → h₀.get? b = some o := fun b o e => hsb₀.extBut b o (Nat.ne_of_lt (Heap.lt_size e)) (Heap.get?_push_of_some _ e)
    obtain ⟨oLo, esL, epL, hoLo, hdL, rL⟩ := id C.ns
    have newx : s.heap.get? x = none := none_of_ge (Nat.le_trans (Nat.le_of_lt Cst.ns.lt) (Nat.le_trans k2 (Nat.le_of_lt k3)))
    have newdx : s.heap.get? dx = none := none_of_ge (Nat.le_trans (Nat.le_of_lt Cst.ns.lt) k2)
    have newfp : ∀ b ∈ fp d ns [dx], s.heap.get? b = none := fun b hb => by
      rcases List.mem_cons.mp hb with rfl | hb
      · exact dnew
      · rcases List.mem_append.mp hb with hb | hb
        · obtain ⟨p, hp, rfl⟩ := List.mem_map.mp hb; exact hnw p (.tail _ hp)
        · rcases List.mem_singleton.mp hb with rfl; exact newdx
    have ownfp : ∀ b ∈ fp d ns [dx], ∃ o, (b, o) ∈ (d, od) :: (objsOf ns ++ ((x, instObj 137 dx) :: (dx, odx) :: fr)) := fun b hb => by
      rcases List.mem_cons.mp hb with rfl | hb
      · exact ⟨_, .head _⟩
      · rcases List.mem_append.mp hb with hb | hb
        · obtain ⟨p, hp, rfl⟩ := List.mem_map.mp hb; exact ⟨p.2, .tail _ (List.mem_append_left _ hp)⟩
        · rcases List.mem_singleton.mp hb with rfl; exact ⟨_, dxm⟩
    have Cg := Cx.start C.G hns₀ hk₀ ((d, od) :: (objsOf ns ++ ((dx, odx) :: ((s.heap.objs.size, oLo) :: fr)))) (fun p hp => by
      rcases List.mem_cons.mp hp with rfl | hp
      · exact ⟨C.get (.head _), ld⟩
      · rcases List.mem_append.mp hp with hp | hp
        · refine ⟨C.get (a := p.1) (o := p.2) (.tail _ (List.mem_append_left _ hp)), ?_⟩
          obtain ⟨n, hn, rfl | rfl | rfl⟩ := mem_objs hp
          · exact N.li n hn
          · exact N.ll n hn
          · exact N.lda n hn
        · rcases List.mem_cons.mp hp with rfl | hp
          · exact ⟨C.get dxm, ldx⟩
          · rcases List.mem_cons.mp hp with rfl | hp
            · exact ⟨hoLo, hbig⟩
            · exact ⟨C.get (a := p.1) (o := p.2) (frm hp), (hfr p hp).2⟩)
    refine wpAny_items_nil ?_
    have Lofp : ∀ p ∈ (s.heap.objs.size, oLo) :: fr, p.1 ∉ fp d ns [dx] := fun p hp q => by
      rcases List.mem_cons.mp hp with rfl | hp
      · obtain ⟨o, ho⟩ := ownfp _ q; exact C.ne ho rfl
      · have := newfp _ q; rw [(hfr p hp).1] at this; cases this
    have agt : ∀ b o, h'.get? b = some o → b ≠ h₀.objs.size := fun b o e => Nat.ne_of_lt (Heap.lt_size (hk₀ _ _ e))
    refine so_list (x := x) (dx := dx) (d := d) (ns := ns) (gs := gs) (gc := h') (L := h'.objs.size) (fr := (s.heap.objs.size, oLo) :: fr) (outer := envAt w 175 s.heap.objs.size :: outer) (ord := gs.flatten) (a := h₀.objs.size) (g := gn.size)
      hh (room 20 (by decide)) ?_ ?_ rfl (C.get xm) ?_ ?_ ?_ ld ldx ?_ ?_ ?_ ddx ?_ (big C) ?_ rfl hol (Cg.push _).genForm (Na.keeps fun b o e => Heap.get?_push_of_some _ (hk₀ b o e)) ⟨?_, ?_⟩ Lofp ⟨_, _, _, (Cg.push _).get (.head _), rfl, rfl, rfl⟩ (Array.getElem?_push_size ..) ?_
    · show Option.map _ A.frames = _; rw [hA]; rfl
    · refine ⟨fun env he => ?_, fun p hp vs => ?_, fun p hp => ?_⟩
      · rcases List.mem_cons.mp he with rfl | he
        · exact ⟨(fun q => by have e : (fdOf w 175).scope.kind = .function := rfl; have q : (fdOf w 175).scope.kind = .module := q; rw [e] at q; cases q), _, .head _, rfl⟩
        · obtain ⟨a, p, hp, e⟩ := O.ok env he; exact ⟨a, p, .tail _ hp, e⟩
      · rcases List.mem_cons.mp hp with rfl | hp
        · show oLo.data ≠ _
          rw [hdL]; simp
        · exact O.data p hp vs
      · rcases List.mem_cons.mp hp with rfl | hp
        · exact .head _
        · exact .tail _ (O.sub p hp)
    · intro q
      rcases List.mem_cons.mp q with q | q
      · exact C.apart (a := d) (.head _) (p := (x, instObj 137 dx)) xm (by rw [Na.odcls (C.get (.head _))]; simp) q
      · rw [List.map_append] at q
        rcases List.mem_append.mp q with q | q
        · obtain ⟨p, hp, q⟩ := List.mem_map.mp q
          refine C.apart (a := p.1) (o := p.2) (.tail _ (List.mem_append_left _ hp)) (p := (x, instObj 137 dx)) xm ?_ q.symm
          rcases cls_objs hp with z | z | z <;> rw [z] <;> simp
        · rcases List.mem_cons.mp q with q | q
          · exact absurd q (Nat.ne_of_gt k3)
          · rcases List.mem_cons.mp q with q | q
            · exact C.ne xm q
            · obtain ⟨p, hp, q⟩ := List.mem_map.mp q
              have := (hfr p hp).1; rw [q, newx] at this; cases this
    · intro p hp
      refine ⟨.tail _ (by rw [List.map_append]; exact List.mem_append_right _ (.tail _ (List.mem_map_of_mem hp))), ?_⟩
      rcases List.mem_cons.mp hp with rfl | hp
      · exact hbig
      · exact (hfr p hp).2
    · exact .tail _ (by rw [List.map_append]; exact List.mem_append_right _ (.head _))
    · intro n hn p hp
      have := hup _ (hct ▸ mem_ct hn) p hp
      rw [← keys_ct, hct]; exact this
    · have := graph_len fo so 12; rw [← hct] at this; unfold ct at this; rw [List.length_map] at this; exact ar201 this
    · intro n hn
      exact Nat.le_trans (graph_sn fo so 12 _ (hct ▸ mem_ct hn)) (by decide)
    · intro q
      obtain ⟨p, hp, q⟩ := List.mem_map.mp q
      have e1 := C.get (a := p.1) (o := p.2) (.tail _ (List.mem_append_left _ hp))
      rw [q, C.get dxm] at e1
      obtain ⟨n, hn, rfl | rfl | rfl⟩ := mem_objs hp <;> simp [odx] at e1
    · rw [ready_ct, hct]; exact hgr
    · intro q
      obtain ⟨o, ho⟩ := ownfp _ q
      exact agt _ _ (C.get ho) rfl
    · intro q
      obtain ⟨p, hp, q⟩ := List.mem_map.mp q
      rcases List.mem_cons.mp hp with rfl | hp
      · exact agt _ _ hoLo q
      · exact agt _ _ (C.get (a := p.1) (o := p.2) (frm hp)) q
    · intro h9 tk9 acc c9 fr9 gens9 MK hfr9 hk9 hS9 hi9 hb9
      have frL : ∀ p ∈ fr, p.1 ≠ s.heap.objs.size := fun p hp => Nat.ne_of_lt (Heap.lt_size (hfr p hp).1)
      obtain ⟨oL', fr', rfl, _, hLn, MK'⟩ := MK.cons_inv frL
      refine hJ₀ _ _ (h h9 _ acc c9 _ fr' gens9 MK' (fun p hp => hfr9 p (.tail _ hp)) (fun b o e q => ?_) ?_ hS9 hi9 fun hs => hb9 ((hb hs).push rfl))
      · refine hk9 b o (C.keep e q) fun z => ?_
        rcases List.mem_cons.mp z with z | z
        · rw [z, dnew] at e; cases e
        · rw [List.map_append] at z
          rcases List.mem_append.mp z with z | z
          · obtain ⟨p, hp, rfl⟩ := List.mem_map.mp z
            rw [hnw p (.tail _ hp)] at e; cases e
          · rcases List.mem_cons.mp z with z | z
            · rw [z, newdx] at e; cases e
            · rcases List.mem_cons.mp z with z | z
              · rw [z] at e; exact absurd (Heap.lt_size e) (Nat.lt_irrefl _)
              · exact q z
      · cases z : s.heap.get? _ with
        | none => rfl
        | some o =>
          have l1 := Heap.lt_size z
          have l2 : s.heap.objs.size < h'.objs.size := C.ns.lt
          have l3 : h'.objs.size < h₀.objs.size := Cg.ns.lt
          have l1' : h₀.objs.size + 1 < s.heap.objs.size := (Heap.size_push h₀ _) ▸ l1
          exact absurd (Nat.lt_trans (Nat.lt_trans l2 l3) (Nat.lt_of_succ_lt l1')) (Nat.lt_irrefl _)
end
end Mine

namespace Mine
theorem needs_lt {fo so : Option (List Int)} {p : Int} (hf : ∀ ks, fo = some ks → 0 ∈ ks) (h0 : 0 ≤ p) : ∀ a ∈ needsF fo so p, 0 ≤ a ∧ a < p := fun a ha => by
  rcases List.mem_append.mp ha with ha | ha
  · unfold needs1 at ha
    cases fo with
    | none => simp at ha
    | some ks =>
      simp only at ha
      split at ha
      · simp at ha
      · rename_i hn
        rcases List.mem_singleton.mp ha with rfl
        have : p ≠ 0 := fun e => hn (e ▸ hf ks rfl)
        exact ar85 h0 this
  · unfold needs2 at ha
    cases so with
    | none => simp at ha
    | some ks =>
      simp only at ha
      split at ha
      · rename_i hn
        rcases List.mem_singleton.mp ha with rfl
        have hp : 0 < p := by have := hn.2; exact ar86 h0 this
        refine ⟨(le_foldl_max _ 0).1, ?_⟩
        have : maxBelow ks p ≤ p - 1 := foldl_max_le _ 0 (p - 1) (by exact ar87 hp) fun b hb => by
          have := (List.mem_filter.mp hb).2
          have : b < p := by simpa using this
          exact ar88 this
        exact ar89 this
      · simp at ha
def lenAt (ls : List Int) (needs : List Int) : Int := (0 :: needs.map fun a => 1 + ls.getD a.toNat 0).foldl max 0
def lensTo (fo so : Option (List Int)) : Nat → List Int
  | 0 => []
  | i + 1 => lensTo fo so i ++ [lenAt (lensTo fo so i) (needsF fo so (i : Nat))]
abbrev lensOf (fo so : Option (List Int)) : List Int := lensTo fo so 12
theorem lens_length (fo so : Option (List Int)) : ∀ i, (lensTo fo so i).length = i
  | 0 => rfl
  | i + 1 => by unfold lensTo; rw [List.length_append, lens_length fo so i]; rfl
theorem paired_map {f : Int → Int} {F : Value → Value → Prop} : ∀ {vs : List Value} {ks : List Int} {ys : List Value}, IntsAre vs ks → (∀ k t y, k ∈ ks → F (.int k t) y → ∃ t', y = .int (f k) t') → Paired F vs ys → IntsAre ys (ks.map f)
  | _, _, ys, .nil, _, h => by cases h; exact .nil
  | _, _, ys, .cons k t r, h2, h => by
    cases h with
    | cons a b =>
      obtain ⟨t, rfl⟩ := h2 _ _ _ (.head _) a
      exact .cons _ _ (paired_map r (fun k t y hk => h2 k t y (.tail _ hk)) b)
theorem ia_at {vs : List Value} {ks : List Int} {i : Nat} (h : IntsAre vs ks) (hi : i < ks.length) : ∃ t, vs[i]? = some (.int (ks.getD i 0) t) := by
  have hl := h.length
  obtain ⟨v, hv⟩ : ∃ v, vs[i]? = some v := ⟨_, List.getElem?_eq_getElem (by exact ar90 hi hl)⟩
  obtain ⟨k, t, hk, rfl⟩ := ia_get h hv
  exact ⟨t, by rw [hv, List.getD_eq_getElem?_getD, hk]; rfl⟩
section
variable {w : World} {mg mb : Str → Option Value} {A : Around} {s : Shared} {fo so : Option (List Int)} {vf vs : Value}
theorem Cx.gain {g : Heap} {L : Addr} {D : List Addr} {m : Str → Option Value} {own : List (Addr × Obj)} {h h' : Heap} {a : Addr} {o : Obj} (C : Cx w mg mb g L D m own h) (hk : ∀ b o, h.get? b = some o → h'.get? b = some o) (hn : h.get? a = none) (ha : h'.get? a = some o) : Cx w mg mb g L D m ((a, o) :: own) h' :=
  C.call (D' := []) (fun b o e _ => hk b o e) (fun _ q => nomatch q) fun p hp => by
    rcases List.mem_cons.mp hp with rfl | hp
    · exact .inr ⟨ha, .inr hn⟩
    · exact .inl ⟨hp, by simp⟩
theorem lengths_spec {R : Result → Shared → Prop} (G : Gd w mg mb s.heap) (hh : A.handled = none) (hroom : A.depth + 10 < recursionLimit) (hf : Opt s.heap vf fo) (hs : Opt s.heap vs so) (hf0 : ∀ ks, fo = some ks → 0 ∈ ks) (h0 : ∀ ks, so = some ks → 0 ∈ ks)
    (h : ∀ h' a us n tk gn, (∀ b o, s.heap.get? b = some o → h'.get? b = some o) → s.heap.get? a = none → h'.get? a = some (listOf us.toArray n) → IntsAre us (lensOf fo so) → (AllBare s.gens → AllBare gn) → R (.ok (.ret (.ref a))) { s with heap := h', toks := tk, gens := gn }) :
    codeAny (model pg w) A (.call (.ref 168) ⟨[vf, vs], []⟩) R s := by
  refine enterC (binds := [("firsts", vf), ("seconds", vs)]) G (by exact ar65 hroom) rfl (by with_unfolding_all rfl) rfl rfl rfl rfl rfl ?_
  intro h₁ tk hns hk hcell J₀ E₀ hJ₀ hN₀
  have C0 : Cx w mg mb s.heap s.heap.objs.size [] _ [] h₁ := Cx.start0 G hns hk
  obtain ⟨hLc, oc, hoc, hdc⟩ := hcell "lengths" (s.heap.objs.size + 1) rfl
  have C := C0.add hoc (Nat.ne_of_gt hLc) (C0.hid (Nat.le_of_lt hLc))
  refine wpAny_execs_cons (wpAny_Assign_Name (wpAny_List (wpAny_items_nil ⟨by decide, ?_⟩)))
  have C2 := C.push (listOf #[] 0)
  have cla : h₁.objs.size ≠ s.heap.objs.size + 1 := Nat.ne_of_gt (C.lt (a := s.heap.objs.size + 1) (o := oc) (.head _))
  refine e_stc C2 (.tail _ (.head _)) hdc fun h3 oc3 hdc3 C3 => ?_
  replace C3 := C3 [(h₁.objs.size, listOf #[] 0), (s.heap.objs.size + 1, oc3)] (Upd.other cla (.head _) (Upd.here Upd.nil))
  let la := h₁.objs.size
  let c := s.heap.objs.size + 1
  let Inv : Nat → (Str → Option Value) → List (Addr × Obj) → Prop := fun i m own => ∃ oc us n, own = [(la, listOf us.toArray n), (c, oc)] ∧ oc.data = .cell (some (.ref la)) ∧ IntsAre us (lensTo fo so i) ∧ m "firsts" = some vf ∧ m "seconds" = some vs
  refine wpAny_execs_cons (for_range (N := 12) (g := s.heap) (L := s.heap.objs.size) (D := []) (mg := mg) (mb := mb) hh (by decide) Inv ?_ ?_ ?_)
  · refine Call_ (e_built (v := .type "range") C3 (by with_unfolding_all rfl) (by decide +kernel) (by decide) ?_)
    refine PyProof.Rows.callWith_type1 (wpAny_items_cons (wpAny_Constant_int (wpAny_items_nil (call_range_1 ?_))))
    exact ⟨_, _, _, _, _, _, _, _, rfl, rfl, (C3.push _).get (.head _), (C3.push _).sub fun p hp => .tail _ hp, oc3, [], 0, rfl, hdc3, .nil, rfl, rfl⟩
  · intro i m0 own' h' tk gn it oi tx J E' hi hb C hinv hne hoi hJ
    obtain ⟨oc, us, n, rfl, hdc, hiu, hm1, hm2⟩ := hinv
    refine wpAny_execs_cons (wpAny_Assign_Name (Call_ (e_glob (v := .ref 163) C (by with_unfolding_all rfl) ?_)))
    refine callWith_K C.G.X (by with_unfolding_all rfl) (wpAny_items_cons (e_loc C rfl (wpAny_items_cons (e_loc C hm1 (wpAny_items_cons (e_loc C hm2 (wpAny_items_nil ⟨C.G.X, ?_⟩)))))))
    refine wpAny_call (needs_spec C.G hh (by show A.depth + 1 + 5 < _; exact ar91 hroom) (hf.keeps fun b o e => C.keep e (by simp)) (hs.keeps fun b o e => C.keep e (by simp)) h0 (by exact ar92) ?_)
    intro h4 na ns n4 tk4 hk4 hna hna4 hi4
    have C4 := C.gain hk4 hna hna4
    refine e_st C4 fun h5 C5 => ?_
    have nsl : ns.length ≤ 2 := by rw [hi4.length]; exact needs_len _ _ _
    have ull : us.length = i := by rw [hiu.length, lens_length]
    refine wpAny_execs_cons (wpAny_Expr_any (MethodCall_ (e_cell C5 (.tail _ (.tail _ (.tail _ (.head _)))) hdc (getMethod_list_append (C5.get (.tail _ (.tail _ (.head _)))) rfl rfl ?_))) (by rfl) (by rfl))
    refine callWith_method1 (wpAny_items_cons (Call_ (e_built (v := .builtin "max") C5 (by with_unfolding_all rfl) (by decide +kernel) (by decide) ?_)))
    refine PyProof.Rows.callWith_builtin1 (wpAny_items_cons (wpAny_BinOp (wpAny_List (wpAny_items_cons (wpAny_Constant_int (wpAny_items_nil ⟨by show 1 ≤ sizeLine; decide, ?_⟩))))))
    refine comp_list (cl := [("lengths", c)]) (fun _ => true) (fun v y => ∃ k t, v = .int k t ∧ ∃ t', y = .int (1 + (lensTo fo so i).getD k.toNat 0) t') hh (by rfl) (by decide) rfl (by decide) rfl ?_
    have C6 := fun tz => C5.push (listOf #[.int 0 tz] 0)
    have isint : ∀ v ∈ ns.toArray.toList, ∃ k t, v = .int k t ∧ k ∈ needsF fo so i := fun v hv => by
      obtain ⟨j, hj⟩ := List.getElem?_of_mem (by simpa using hv)
      obtain ⟨k, t, hk, rfl⟩ := ia_get hi4 hj
      exact ⟨k, t, rfl, List.mem_of_getElem? hk⟩
    refine e_loc (C6 _) rfl ⟨na, _, rfl, isList_of ((C6 _).get (.tail _ (.head _))), by rw [List.size_toArray]; exact ar93 nsl, ?_, ?_, ?_⟩
    · intro B v s₃ m₃ E' hv hn3 hm3 hk3
      exact wpAny_tests_nil ⟨rfl, ⟨_, _, rfl, fun _ _ e => e⟩⟩
    · intro B v s₃ m₃ E' hv _ hn3 hm3 hk3
      obtain ⟨k, t, rfl, hkm⟩ := isint v hv
      have hkb := needs_lt (so := so) hf0 (by exact ar92 : (0 : Int) ≤ (i : Nat)) k hkm
      obtain ⟨t', hat⟩ := ia_at hiu (i := k.toNat) (by rw [lens_length]; exact ar94 hkb)
      refine wpAny_BinOp (wpAny_Constant_int (Subscript_ (wpAny_Name (wpAny_loadName_cell rfl rfl rfl ⟨oc, hk3 _ _ ((C6 _).get (.tail _ (.tail _ (.tail _ (.tail _ (.head _)))))), hdc⟩ (wpAny_Name (wpAny_loadName_local rfl rfl hn3 hm3 ?_) rfl)) rfl)))
      have hl3 : s₃.heap.IsList la us.toArray := isList_of (hk3 _ _ ((C6 _).get (.tail _ (.tail _ (.tail _ (.head _))))))
      refine tail_any hl3.typeIs slot_list_getitem.lookup (wpAny_getItem_list hl3 hkb.1 (by exact ar95 hi hkb) (by simpa using hat) ?_) (by with_unfolding_all rfl)
      exact add_int ⟨⟨k, t, rfl, _, rfl⟩, ⟨_, _, rfl, fun _ _ e => e⟩⟩
    · intro D' h6 tk6 ys hD hpl hF hk6
      have hys : IntsAre ys.toList ((needsF fo so i).map fun a => 1 + (lensTo fo so i).getD a.toNat 0) := paired_map (F := fun v y => ∃ k t, v = .int k t ∧ ∃ t', y = .int (1 + (lensTo fo so i).getD k.toNat 0) t') hi4 (fun k t y _ h => by obtain ⟨k', t', e, t2, rfl⟩ := h; cases e; exact ⟨t2, rfl⟩) (by rw [List.filter_eq_self.mpr (fun _ _ => rfl)] at hF; exact hF)
      obtain ⟨nl, hpl⟩ := hpl
      have C7 := (C6 _).gain hk6 hD hpl
      refine add_lists (vs := [.int 0 _]) (ws := ys.toList) C7.fr C7.nw (isList_of (C7.get (.tail _ (.head _)))) ⟨_, hpl, rfl, _, rfl⟩ (fun h8 F8 N8 => ?_) (by rw [sizeLine_eq]; have := hys.length; rw [List.length_map] at this; have := needs_len fo so i; rw [List.length_singleton]; omega)
      have C8 := C7.of F8 N8
      refine wpAny_items_nil (max_list_N hh C8.fr C8.nw (isList_of (C8.get (.head _))) (IntsAre.cons 0 _ hys) (Nat.succ_pos _) fun h9 M tM tk9 F9 N9 hM hle => ?_)
      have C9 := C8.of F9 N9
      refine wpAny_items_nil (wpAny_list_append_plain ⟨_, C9.get (.tail _ (.tail _ (.tail _ (.tail _ (.tail _ (.head _))))))⟩ (fun h10 hl10 sb10 => ?_) (by rw [sizeLine_eq, List.size_toArray]; exact ar96 hi ull))
      obtain ⟨n10, hl10⟩ := hl10
      rw [show (us.toArray.push (Value.int M tM)) = (us ++ [Value.int M tM]).toArray from by simp] at hl10
      have itla : it ≠ la := fun e => hne (la, _) (.head _) e.symm
      have C10 := C9.chg (own' := [(it, oi), (la, listOf (us ++ [Value.int M tM]).toArray n10), (c, oc)]) (.tail _ (.tail _ (.tail _ (.tail _ (.tail _ (.head _)))))) sb10 hl10 (Upd.other itla (.tail _ (.tail _ (.tail _ (.tail _ (.head _))))) (Upd.here (Upd.other cla.symm (.tail _ (.tail _ (.tail _ (.tail _ (.tail _ (.tail _ (.head _))))))) Upd.nil)))
      refine wpAny_execs_nil (hJ h10 _ gn _ [(la, listOf (us ++ [Value.int M tM]).toArray n10), (c, oc)] hb C10 ⟨oc, _, n10, rfl, hdc, ?_, hm1, hm2⟩ fun p hp => ?_)
      · have eM : M = lenAt (lensTo fo so i) (needsF fo so i) := max_is hM hle (hle 0 (.head _))
        unfold lensTo
        rw [← eM]
        exact hiu.append (.cons _ _ .nil)
      · simp only [List.mem_cons, List.not_mem_nil, or_false] at hp
        rcases hp with rfl | rfl
        · exact hne (la, listOf us.toArray n) (.head _)
        · exact hne (c, oc) (.tail _ (.head _))
  · intro m' own' h' tk gn hb C hinv
    obtain ⟨oc, us, n, rfl, hdc, hiu, hm1, hm2⟩ := hinv
    refine wpAny_execs_cons (wpAny_Return_some (e_cell C (.tail _ (.head _)) hdc ?_))
    refine hJ₀ _ _ (h h' la us n _ gn (fun b o e => C.keep e (by simp)) (none_of_ge ?_) (C.get (.head _)) hiu hb)
    exact Nat.le_trans (Nat.le_of_lt hLc) (Nat.le_of_lt (C0.add hoc (Nat.ne_of_gt hLc) (C0.hid (Nat.le_of_lt hLc)) |>.lt (a := c) (o := _) (.head _)))
end
end Mine

namespace Mine
theorem Walks.bound {w : World} {A : Around} {I : Addr} {fp wr : List Addr} {n : Nat} {P : Nat → Value → Prop} {St : Nat → Heap → Prop} (W : Walks pg w A I fp wr n P St) : Walks pg w A I fp wr n (fun i v => i < n ∧ P i v) St where
  sub := W.sub
  frame := W.frame
  item := fun i s Q E hi st hQ => W.item i s Q E hi st fun v h' tk hP => hQ v h' tk ⟨hi, hP⟩
  done := W.done
  self := W.self
theorem ints_of_get : ∀ (vs : List Value) (ks : List Int), vs.length = ks.length → (∀ (j : Nat) v, vs[j]? = some v → ∃ k t, ks[j]? = some k ∧ v = .int k t) → IntsAre vs ks
  | [], [], _, _ => .nil
  | [], _ :: _, h, _ => by simp at h
  | _ :: _, [], h, _ => by simp at h
  | v :: vs, k :: ks, h, hg => by
    obtain ⟨k', t, e, rfl⟩ := hg 0 v rfl
    cases e
    exact .cons _ _ (ints_of_get vs ks (by simpa using h) fun j v hv => hg (j + 1) v (by simpa using hv))
section
variable {w : World} {mg mb : Str → Option Value} {g : Heap} {L f : Addr} {D : List Addr} {m : Str → Option Value} {own : List (Addr × Obj)} {s : Shared} {A : Around} {E : Value → Shared → Prop}
  {x : Str} {pos : Pos} {v : Value} {env : Env}
structure TupI (w : World) (A : Around) (env : Env) (scope : Scope) (cl : List (Str × Addr)) (x : Str) (ifs : List Expr) (elt : Expr) (p : Value → Bool) (F : Value → Value → Prop) (Q : Value → Shared → Prop) (xv : Value) (s₁ : Shared) (a : Addr) (items : Array Value) : Prop where
  xv : xv = .ref a
  hl : s₁.heap.IsTuple a items
  hsz : items.size ≤ 1000
  tests : ∀ B v s₃ m₃ E', v ∈ items.toList → s₃.heap.Ns B m₃ → m₃ x = some v → (∀ b o, s₁.heap.get? b = some o → s₃.heap.get? b = some o) →
        wpAny (model pg w) A (forIn ifs true fun c r => if r = true then do let ok ← isTrue c (compEnvC scope cl B env) (eval c (compEnvC scope cl B env)); pure (ForInStep.yield ok) else pure (ForInStep.yield r)) (fun ok s₄ => ok = p v ∧ Keeps s₃ s₄) E' s₃
  elt : ∀ B v s₃ m₃ E', v ∈ items.toList → p v = true → s₃.heap.Ns B m₃ → m₃ x = some v → (∀ b o, s₁.heap.get? b = some o → s₃.heap.get? b = some o) →
        wpAny (model pg w) A (eval elt (compEnvC scope cl B env)) (fun y s₄ => F v y ∧ Keeps s₃ s₄) E' s₃
  res : ∀ D' h' tk ys, s₁.heap.get? D' = none → h'.PlainList D' ys → Paired F (items.toList.filter p) ys.toList → (∀ b o, s₁.heap.get? b = some o → h'.get? b = some o) → Q (.ref D') { s₁ with heap := h', toks := tk }
/-- a list comprehension over a tuple, tests and element only reading -/
theorem comp_tuple {elt iter : Expr} {px : Pos} {ifs : List Expr} {scope : Scope} {cl : List (Str × Addr)} {Q : Value → Shared → Prop} (p : Value → Bool) (F : Value → Value → Prop) (hh : A.handled = none)
    (hclos : closureFor scope env = pure cl) (hcell : ∀ y ∈ scope.names, y.2 ≠ .cell) (hkind : scope.kind = .function)
    (hnames : ∀ y ∈ scope.names, y.2 = .local → scope.names.lookup y.1 = some .local) (hx : scope.names.lookup x = some .local)
    (h : wpAny (model pg w) A (eval iter env) (fun xv s₁ => ∃ a items, TupI w A env scope cl x ifs elt p F Q xv s₁ a items) E s)
    (hs : ∀ x, foldedSetIterable iter env x = pure x := by intro _; rfl) :
    wpAny (model pg w) A (eval (.ListComp elt [⟨.Name x px, iter, ifs, 0⟩] scope pos) env) Q E s := by
  refine wpAny_ListComp_free (cl := cl) p F hclos hcell hkind hnames hx (wpAny_mono h (fun xv s₁ h₁ => ?_) fun _ _ q => q) hs
  obtain ⟨a, items, rfl, hl, hsz, ht, he, hq⟩ := h₁
  refine wpAny_pyIter_tuple hl ?_
  obtain ⟨o, ho, _⟩ := id hl
  have la : a < s₁.heap.objs.size := Heap.lt_size ho
  have keep : ∀ b o, s₁.heap.get? b = some o → (s₁.heap.push { cls := .type "tuple_iterator", data := .fields #[.ref a, .int 0 0] }).get? b = some o := fun b o e => Heap.get?_push_of_some _ e
  have nI : ∀ {b o}, s₁.heap.get? b = some o → b ∉ [s₁.heap.objs.size] := fun e q => absurd (List.mem_singleton.mp q) (Nat.ne_of_lt (Heap.lt_size e))
  refine ⟨_, _, _, _, _, _, rfl, Walks.tuple (prog := pg) (w := w) (A := A) hh s₁.heap.objs.size a (Nat.ne_of_lt la) items, by rw [sizeLine_eq]; exact ar1 hsz, ⟨⟨_, Heap.get?_push_size _ rfl, rfl, rfl⟩, hl.at fun o e => Heap.get?_push_of_some _ e⟩, ?_, ⟨?_, ?_⟩, ?_⟩
  · intro b hb
    simp only [List.mem_cons, List.not_mem_nil, or_false] at hb
    rcases hb with rfl | rfl
    · show _ < (s₁.heap.push _).objs.size; rw [Heap.size_push]; exact Nat.lt_succ_self _
    · show _ < (s₁.heap.push _).objs.size; rw [Heap.size_push]; exact Nat.lt_succ_of_lt la
  · intro B i v s₃ m₃ E' _ hP hn hm hk _
    exact ht B v s₃ m₃ E' (List.mem_of_getElem? (by simpa using hP)) hn hm fun b o e => hk b o (nI e) (keep b o e)
  · intro B i v s₃ m₃ E' _ hP hpv hn hm hk _
    exact he B v s₃ m₃ E' (List.mem_of_getElem? (by simpa using hP)) hpv hn hm fun b o e => hk b o (nI e) (keep b o e)
  · intro D' h' tk ys vs hD _ hpl hlen hP hF hk
    have ev : vs = items.toList := by
      apply List.ext_getElem?
      intro j
      cases hj : vs[j]? with
      | none => rw [List.getElem?_eq_none_iff.mpr]; have := List.getElem?_eq_none_iff.mp hj; rw [Array.length_toList]; exact ar117 hlen this
      | some v => rw [Array.getElem?_toList]; exact (hP j v hj).symm
    subst ev
    refine hq D' h' tk ys ?_ hpl hF fun b o e => hk b o (nI e) (keep b o e)
    cases q : s₁.heap.get? D' with
    | none => rfl
    | some o => have := keep _ _ q; rw [show (s₁.heap.push _).get? D' = none from hD] at this; cases this
structure RngI (w : World) (A : Around) (env : Env) (scope : Scope) (cl : List (Str × Addr)) (x : Str) (ifs : List Expr) (elt : Expr) (p : Value → Bool) (F : Value → Value → Prop) (Q : Value → Shared → Prop) (xv : Value) (s₁ : Shared) (r : Addr) (a : Int) (n : Nat) (t u v' : Tok) : Prop where
  xv : xv = .ref r
  hr : IsRange s₁.heap r a (a + (n : Nat)) 1 t u v'
  ha0 : 0 ≤ a
  ha1 : a ≤ 1000
  hn : n ≤ 1000
  tests : ∀ B v s₃ m₃ E', (∃ j t, j < n ∧ v = .int (a + (j : Nat)) t) → s₃.heap.Ns B m₃ → m₃ x = some v → (∀ b o, s₁.heap.get? b = some o → s₃.heap.get? b = some o) →
        wpAny (model pg w) A (forIn ifs true fun c r => if r = true then do let ok ← isTrue c (compEnvC scope cl B env) (eval c (compEnvC scope cl B env)); pure (ForInStep.yield ok) else pure (ForInStep.yield r)) (fun ok s₄ => ok = p v ∧ Keeps s₃ s₄) E' s₃
  elt : ∀ B v s₃ m₃ E', (∃ j t, j < n ∧ v = .int (a + (j : Nat)) t) → p v = true → s₃.heap.Ns B m₃ → m₃ x = some v → (∀ b o, s₁.heap.get? b = some o → s₃.heap.get? b = some o) →
        wpAny (model pg w) A (eval elt (compEnvC scope cl B env)) (fun y s₄ => F v y ∧ Keeps s₃ s₄) E' s₃
  res : ∀ D' h' tk ys vs, s₁.heap.get? D' = none → h'.PlainList D' ys → IntsAre vs ((List.range n).map fun j => a + (j : Nat)) → Paired F (vs.filter p) ys.toList → (∀ b o, s₁.heap.get? b = some o → h'.get? b = some o) → Q (.ref D') { s₁ with heap := h', toks := tk }
/-- a list comprehension over a range, tests and element only reading -/
theorem comp_range {elt iter : Expr} {px : Pos} {ifs : List Expr} {scope : Scope} {cl : List (Str × Addr)} {Q : Value → Shared → Prop} (p : Value → Bool) (F : Value → Value → Prop) (hh : A.handled = none)
    (hclos : closureFor scope env = pure cl) (hcell : ∀ y ∈ scope.names, y.2 ≠ .cell) (hkind : scope.kind = .function)
    (hnames : ∀ y ∈ scope.names, y.2 = .local → scope.names.lookup y.1 = some .local) (hx : scope.names.lookup x = some .local)
    (h : wpAny (model pg w) A (eval iter env) (fun xv s₁ => ∃ r a n t u v', RngI w A env scope cl x ifs elt p F Q xv s₁ r a n t u v') E s)
    (hs : ∀ x, foldedSetIterable iter env x = pure x := by intro _; rfl) :
    wpAny (model pg w) A (eval (.ListComp elt [⟨.Name x px, iter, ifs, 0⟩] scope pos) env) Q E s := by
  refine wpAny_ListComp_free (cl := cl) p F hclos hcell hkind hnames hx (wpAny_mono h (fun xv s₁ h₁ => ?_) fun _ _ q => q) hs
  obtain ⟨r, a, n, t, u, v', rfl, hr, ha0, ha1, hn, ht, he, hq⟩ := h₁
  have hsm : Builtin.Range.small a (a + (n : Nat)) 1 = true := by unfold Builtin.Range.small Builtin.Range.rangeFitsLong Builtin.Range.rangeSize; simp; omega
  refine wpAny_pyIter_range hr hsm ?_
  have hsz : Builtin.Range.rangeSize a (a + (n : Nat)) 1 = n := by unfold Builtin.Range.rangeSize; simp; omega
  rw [hsz]
  have keep : ∀ b o, s₁.heap.get? b = some o → (s₁.heap.push { cls := .type "range_iterator", data := .fields #[rawInt a, rawInt (n : Nat), rawInt 1] }).get? b = some o := fun b o e => Heap.get?_push_of_some _ e
  have nI : ∀ {b o}, s₁.heap.get? b = some o → b ∉ [s₁.heap.objs.size] := fun e q => absurd (List.mem_singleton.mp q) (Nat.ne_of_lt (Heap.lt_size e))
  refine ⟨_, _, _, _, _, _, rfl, Walks.bound (Walks.range (prog := pg) (w := w) (A := A) hh s₁.heap.objs.size a 1 n), by rw [sizeLine_eq]; exact ar1 hn, ?_, ?_, ⟨?_, ?_⟩, ?_⟩
  · have : (s₁.heap.push { cls := .type "range_iterator", data := .fields #[rawInt a, rawInt (n : Nat), rawInt 1] }).get? s₁.heap.objs.size = some { cls := .type "range_iterator", data := .fields #[rawInt a, rawInt (n : Nat), rawInt 1] } := Heap.get?_push_size _ rfl
    show (s₁.heap.push { cls := .type "range_iterator", data := .fields #[rawInt a, rawInt (n : Nat), rawInt 1] }).get? s₁.heap.objs.size = some { cls := .type "range_iterator", data := .fields #[rawInt (a + ((0 : Nat) : Int) * 1), rawInt ((n : Int) - ((0 : Nat) : Int)), rawInt 1] }
    rw [show a + ((0 : Nat) : Int) * 1 = a by exact ar118, show (n : Int) - ((0 : Nat) : Int) = n by exact ar119]; exact this
  · intro b hb
    simp only [List.mem_cons, List.not_mem_nil, or_false] at hb
    rcases hb with rfl
    show _ < (s₁.heap.push _).objs.size; rw [Heap.size_push]; exact Nat.lt_succ_self _
  · intro B i v s₃ m₃ E' _ hP hn' hm hk _
    obtain ⟨hi, t, rfl⟩ := hP
    exact ht B _ s₃ m₃ E' ⟨i, t, hi, by rw [Int.mul_one]⟩ hn' hm fun b o e => hk b o (nI e) (keep b o e)
  · intro B i v s₃ m₃ E' _ hP hpv hn' hm hk _
    obtain ⟨hi, t, rfl⟩ := hP
    exact he B _ s₃ m₃ E' ⟨i, t, hi, by rw [Int.mul_one]⟩ hpv hn' hm fun b o e => hk b o (nI e) (keep b o e)
  · intro D' h' tk ys vs hD _ hpl hlen hP hF hk
    have ev : IntsAre vs ((List.range n).map fun j => a + (j : Nat)) := by
      refine ints_of_get _ _ (by simpa using hlen) fun j v hv => ?_
      obtain ⟨hj, t, rfl⟩ := hP j v hv
      exact ⟨a + (j : Nat), t, by simp [hj], by rw [Int.mul_one]⟩
    refine hq D' h' tk ys vs ?_ hpl ev hF fun b o e => hk b o (nI e) (keep b o e)
    cases q : s₁.heap.get? D' with
    | none => rfl
    | some o => have := keep _ _ q; rw [show (s₁.heap.push _).get? D' = none from hD] at this; cases this
end
section
variable {w : World} {s : Shared} {A : Around} {E : Value → Shared → Prop} {env : Env}
/-- a slice of a list, the list a temporary or not -/
theorem sub_slice {value : Expr} {lower upper : Option Expr} {p pos : Pos} {Q : Value → Shared → Prop}
    (h : wpAny (model pg w) A (eval value env) (fun o s₁ => wpAny (model pg w) A (evalPart lower env) (fun vl s₂ => wpAny (model pg w) A (evalPart upper env) (fun vu s₃ =>
      ∃ l items lo hi, o = .ref l ∧ s₃.heap.IsList l items ∧ items.size ≤ sizeLine ∧ IsPart vl lo ∧ IsPart vu hi ∧
        Q (.ref (s₃.heap.objs.size + 1)) { s₃ with heap := (s₃.heap.push { cls := .type "slice", data := .fields #[vl, vu, .none] }).push { cls := .type "list", data := .seq (slicePick items lo hi none) } }) E s₂) E s₁) E s) :
    wpAny (model pg w) A (eval (.Subscript value (.Slice lower upper none p) pos) env) Q E s := by
  refine Subscript_ (wpAny_mono h (fun o s₁ h₁ => wpAny_Slice (wpAny_mono h₁ (fun vl s₂ h₂ => wpAny_mono h₂ (fun vu s₃ h₃ => ?_) fun _ _ e => e) fun _ _ e => e)) fun _ _ e => e)
  obtain ⟨l, items, lo, hi, rfl, hl, hsz, pl, pu, hQ⟩ := h₃
  rw [evalPart_none]
  refine wpAny_pure ?_
  refine tail_any (Heap.IsList.typeIs (s := { s₃ with heap := _ }) (hl.push _)) slot_list_getitem.lookup (ops := [.ref s₃.heap.objs.size, .ref l]) (wpAny_getItem_list_slice (hl.push _) (Heap.IsSliceOf.new ..) pl pu .none (by simp) ?_ hsz) rfl
  rw [Heap.size_push]
  exact hQ
end
end Mine

namespace Mine
def sizesL : List Int := [3, 0, 2, 127, 1, 4]
def rowF (f : Int) : List Int := (([5, 30, 180, 1080] : List Int).map fun b => sizesL.getD ((f.fdiv b).fmod 6).toNat 0).take (f.fmod 5).toNat
theorem ints_take : ∀ {vs : List Value} {ks : List Int}, IntsAre vs ks → ∀ n, IntsAre (vs.take n) (ks.take n)
  | _, _, .nil, n => by simpa using IntsAre.nil
  | _, _, .cons k t r, 0 => .nil
  | _, _, .cons k t r, n + 1 => .cons k t (ints_take r n)
section
variable {w : World} {mg mb : Str → Option Value} {A : Around} {s : Shared}
theorem row_spec {R : Result → Shared → Prop} {f : Int} {t : Tok} (G : Gd w mg mb s.heap) (hh : A.handled = none) (hroom : A.depth < recursionLimit) (h0 : 0 ≤ f) (h1 : f < 1000000)
    (h : ∀ h' a us n tk, (∀ b o, s.heap.get? b = some o → h'.get? b = some o) → s.heap.get? a = none → h'.get? a = some (listOf us.toArray n) → IntsAre us (rowF f) → R (.ok (.ret (.ref a))) { s with heap := h', toks := tk }) :
    codeAny (model pg w) A (.call (.ref 146) ⟨[.int f t], []⟩) R s := by
  refine enterC (binds := [("figure", .int f t)]) G (by exact ar33 hroom) rfl (by with_unfolding_all rfl) rfl rfl rfl rfl rfl ?_
  intro h₁ tk hns hk hcell J₀ E₀ hJ₀ hN₀
  have C0 : Cx w mg mb s.heap s.heap.objs.size [] _ [] h₁ := Cx.start0 G hns hk
  obtain ⟨hLf, of, hof, hdf⟩ := hcell "figure" (s.heap.objs.size + 1) rfl
  obtain ⟨hLs, os, hos, hds⟩ := hcell "sizes" (s.heap.objs.size + 1 + 1) rfl
  have C := (C0.add hof (Nat.ne_of_gt hLf) (C0.hid (Nat.le_of_lt hLf))).add hos (Nat.ne_of_gt hLs) (C0.hid (Nat.le_of_lt hLs))
  let cf := s.heap.objs.size + 1
  let cs := s.heap.objs.size + 1 + 1
  refine wpAny_execs_cons (wpAny_Assign_Name (wpAny_mono (Q := fun v s' => ∃ us tk', v = .ref h₁.objs.size ∧ s' = { s with heap := h₁.push (listOf us.toArray 0), toks := tk' } ∧ IntsAre us sizesL) (wpAny_List (wpAny_items_cons (wpAny_Constant_int (wpAny_items_cons (wpAny_Constant_int (wpAny_items_cons (wpAny_Constant_int (wpAny_items_cons (wpAny_Constant_int (wpAny_items_cons (wpAny_Constant_int (wpAny_items_cons (wpAny_Constant_int (wpAny_items_nil ⟨by show 6 ≤ sizeLine; decide, ?_⟩)))))))))))))) (fun v s' hq => ?_) fun _ _ q => q))
  · exact ⟨_, _, rfl, rfl, .cons _ _ (.cons _ _ (.cons _ _ (.cons _ _ (.cons _ _ (.cons _ _ .nil)))))⟩
  obtain ⟨us, tk2, rfl, rfl, hus⟩ := hq
  have szs : h₁.objs.size ≠ cs := Nat.ne_of_gt (C.lt (a := cs) (o := os) (.head _))
  have cfs : cf ≠ cs := Nat.ne_of_lt (Nat.lt_succ_self _)
  refine e_stc (C.push (listOf us.toArray 0)) (.tail _ (.head _)) hds fun h3 os3 hds3 C3 => ?_
  replace C3 := C3 [(h₁.objs.size, listOf us.toArray 0), (cs, os3), (cf, of)] (Upd.other szs (.head _) (Upd.here (Upd.other cfs (.tail _ (.tail _ (.head _))) Upd.nil)))
  refine wpAny_execs_cons (wpAny_Return_some (sub_slice ?_))
  refine comp_tuple (cl := [("sizes", cs), ("figure", cf)]) (fun _ => true) (fun v y => ∃ k t, v = .int k t ∧ ∃ t', y = .int (sizesL.getD ((f.fdiv k).fmod 6).toNat 0) t') hh (by rfl) (by decide) rfl (by decide) rfl ?_
  refine wpAny_mono (Q := fun v s' => ∃ bs tk', v = .ref h3.objs.size ∧ s' = { s with heap := h3.push (tupOf bs), toks := tk' } ∧ IntsAre bs [5, 30, 180, 1080]) (wpAny_Tuple (wpAny_items_cons (wpAny_Constant_int (wpAny_items_cons (wpAny_Constant_int (wpAny_items_cons (wpAny_Constant_int (wpAny_items_cons (wpAny_Constant_int (wpAny_items_nil ⟨by show 4 ≤ sizeLine; decide, ?_⟩)))))))))) (fun v s' hq => ?_) fun _ _ q => q
  · exact ⟨_, _, rfl, rfl, .cons _ _ (.cons _ _ (.cons _ _ (.cons _ _ .nil)))⟩
  obtain ⟨bs, tk3, rfl, rfl, bI⟩ := hq
  have C4 := C3.push (tupOf bs)
  refine ⟨h3.objs.size, bs.toArray, rfl, ⟨_, C4.get (.head _), rfl, _, rfl⟩, by rw [List.size_toArray, bI.length]; decide, ?_, ?_, ?_⟩
  · intro B v s₃ m₃ E' hv hn3 hm3 hk3
    exact wpAny_tests_nil ⟨rfl, ⟨_, _, rfl, fun _ _ e => e⟩⟩
  · intro B v s₃ m₃ E' hv _ hn3 hm3 hk3
    have hb : ∃ k t, v = .int k t ∧ k ∈ ([5, 30, 180, 1080] : List Int) := by
      obtain ⟨j, hj⟩ := List.getElem?_of_mem hv
      obtain ⟨k, t, hk, rfl⟩ := ia_get bI hj
      exact ⟨k, t, rfl, List.mem_of_getElem? hk⟩
    obtain ⟨k, t, rfl, hkm⟩ := hb
    have hk0 : 0 < k ∧ k < 2000 := by simp only [List.mem_cons, List.not_mem_nil, or_false] at hkm; rcases hkm with rfl | rfl | rfl | rfl <;> decide
    refine Subscript_ (wpAny_Name (wpAny_loadName_cell rfl rfl rfl ⟨os3, hk3 _ _ (C4.get (.tail _ (.tail _ (.head _)))), hds3⟩ ?_) rfl)
    refine wpAny_BinOp (wpAny_BinOp (wpAny_Name (wpAny_loadName_cell rfl rfl rfl ⟨of, hk3 _ _ (C4.get (.tail _ (.tail _ (.tail _ (.head _))))), hdf⟩ ?_) rfl))
    refine wpAny_Name (wpAny_loadName_local rfl rfl hn3 hm3 ?_) rfl
    refine floordiv_int_or hh (fun e => absurd e (by exact ar202 hk0)) (fun _ => ?_) (fun _ => .inl (PyProof.noPylong_small (by omega)))
    refine wpAny_Constant_int (PyProof.Rows.mod_int (by decide) ?_)
    have e6 : (f.fdiv k).fmod 6 = (f.fdiv k) % 6 := Int.fmod_eq_emod_of_nonneg _ (by decide)
    generalize hq : (f.fdiv k).fmod 6 = q at e6 ⊢
    have b6 : 0 ≤ q ∧ q < 6 := by rw [e6]; exact ar203
    obtain ⟨t', hat⟩ := ia_at hus (i := q.toNat) (by show _ < 6; exact ar204 e6)
    have hl3 : s₃.heap.IsList h₁.objs.size us.toArray := isList_of (hk3 _ _ (C4.get (.tail _ (.head _))))
    refine tail_any (ops := [.ref h₁.objs.size, .int q _]) (Heap.IsList.typeIs (s := { s₃ with toks := _ }) hl3) slot_list_getitem.lookup (wpAny_getItem_list hl3 b6.1 (by exact ar205 e6) (by simpa using hat) ?_) rfl
    exact ⟨⟨k, t, rfl, t', by first | rfl | (subst hq; rfl)⟩, ⟨_, _, rfl, fun _ _ e => e⟩⟩
  · intro D' h6 tk6 ys hD hpl hF hk6
    have hys : IntsAre ys.toList (([5, 30, 180, 1080] : List Int).map fun b => sizesL.getD ((f.fdiv b).fmod 6).toNat 0) := paired_map (F := fun v y => ∃ k t, v = .int k t ∧ ∃ t', y = .int (sizesL.getD ((f.fdiv k).fmod 6).toNat 0) t') bI (fun k t y _ h => by obtain ⟨k', t', e, t2, rfl⟩ := h; cases e; exact ⟨t2, rfl⟩) (by rw [List.filter_eq_self.mpr (fun _ _ => rfl)] at hF; exact hF)
    obtain ⟨nl, hpl⟩ := hpl
    have C7 := C4.gain hk6 hD hpl
    rw [evalPart_none]
    refine wpAny_pure ?_
    rw [evalPart_some]
    refine wpAny_BinOp (e_cell C7 (.tail _ (.tail _ (.tail _ (.tail _ (.head _))))) hdf (wpAny_Constant_int (PyProof.Rows.mod_int (by decide) ?_)))
    have e5 : f.fmod 5 = f % 5 := Int.fmod_eq_emod_of_nonneg _ (by decide)
    generalize hq : f.fmod 5 = q at e5 ⊢
    have b5 : 0 ≤ q ∧ q < 5 := by rw [e5]; exact ar206
    have hlen : ys.toList.length = 4 := by rw [hys.length]; rfl
    refine ⟨D', ys, none, some q, rfl, isList_of hpl, by rw [← Array.length_toList, hlen, sizeLine_eq]; decide, .none, .int _ _, ?_⟩
    have eP : slicePick ys none (some q) none = (ys.toList.take q.toNat).toArray := by
      have := slicePick_upto' ys q.toNat
      rwa [Int.toNat_of_nonneg b5.1] at this
    rw [eP]
    refine hJ₀ _ _ (h _ _ (ys.toList.take q.toNat) 0 _ (fun b o e => ((C7.push _).push _).keep e (by simp)) ?_ ?_ ?_)
    · refine none_of_ge ?_
      have l1 := C7.ns.lt
      exact Nat.le_trans (Nat.le_of_lt l1) (Nat.le_succ _)
    · have z := fun o ho => ((C7.push (o : Obj) ho).push (listOf (ys.toList.take q.toNat).toArray 0)).get (.head _)
      simp only [Heap.size_push] at z
      exact z _ rfl
    · unfold rowF
      rw [hq]
      exact ints_take hys q.toNat
end
end Mine

namespace Mine
theorem kf_at_idx {vs : List Value} {ks : List Int} (h : IntsAre vs ks) (k : Int) : k ∈ ks → kf_at k vs = some (ks.idxOf k) := by
  induction h with
  | nil => intro h; cases h
  | cons n t r ih =>
    intro hk
    unfold kf_at
    rw [List.idxOf_cons]
    by_cases e : n = k
    · subst e; simp [isInt]
    · have hk' : k ∈ _ := (List.mem_cons.mp hk).resolve_left (fun q => e q.symm)
      have e1 : isInt k (.int n t) = false := by simp [isInt, e]
      have e2 : (n == k) = false := by simp [e]
      rw [e1, e2, ih hk']
      rfl
section
variable {w : World} {mg mb : Str → Option Value} {g : Heap} {L : Addr} {D : List Addr} {m : Str → Option Value} {own : List (Addr × Obj)} {s : Shared} {A : Around} {E : Value → Shared → Prop} {env : Env}
theorem sum_k {l : Addr} {vs : List Value} {ks : List Int} {Q : Value → Shared → Prop} (hh : A.handled = none) (hl : s.heap.IsList l vs.toArray) (hi : IntsAre vs ks)
    (h : ∀ h' tk t', (∀ b o, s.heap.get? b = some o → h'.get? b = some o) → Q (.int ks.sum t') { s with heap := h', toks := tk }) : wpAny (model pg w) A (call (.builtin "sum") [.ref l]) Q E s := by
  obtain ⟨xs, e⟩ := hi.allInts.items
  rw [e] at hl
  refine sum_intListG hh hl fun h' tk t' hk => ?_
  have e2 : xs.toList.map (·.1) = ks := by rw [← nums_intItems, ← e]; exact hi.numsOf
  rw [preSum_eq, e2, List.take_of_length_le (by rw [← e2]; simp)]
  exact h h' tk t' hk
theorem index_k {l : Addr} {vs : List Value} {ks : List Int} {n : Nat} {k : Int} {t : Tok} {Q : Value → Shared → Prop} (hl : s.heap.get? l = some (listOf vs.toArray n)) (hi : IntsAre vs ks) (hk : k ∈ ks) (hz : ks.length ≤ 1000)
    (h : Q (.int (ks.idxOf k : Nat) s.toks) { s with toks := s.toks + 1 }) : wpAny (model pg w) A (call (.builtin "list.index") [.ref l, .int k t]) Q E s := by
  obtain ⟨a, b, c⟩ := kf_at_spec (kf_at_idx hi k hk)
  have hlen := hi.length
  refine call_meets PySem.F.slot_list_index ⟨_, hl, rfl⟩ PySem.F.entry_list_index (PySem.F.args_list_index_2 _ _)
    (MeetsSeq.list_index l vs.toArray n (.int k t) (isInt k) (fun y hy => kf_eq (kf_of hi) y (by simpa using hy)) (ks.idxOf k) (by simpa using a) (by exact ar190 hz a hlen) (by simpa using b) (fun i hi hlt => by simpa using c i (by simpa using hi) hlt)) ⟨hl, h⟩
structure UptoI (Q : Value → Shared → Prop) (o kv : Value) (s₂ : Shared) (l : Addr) (vs : List Value) (ks : List Int) (k : Nat) (t : Tok) : Prop where
  ho : o = .ref l
  hl : s₂.heap.IsList l vs.toArray
  hi : IntsAre vs ks
  hz : ks.length ≤ 1000
  hk : kv = .int ((k : Nat) : Int) t
  res : ∀ h' a, s₂.heap.get? a = none → (∀ b o, s₂.heap.get? b = some o → h'.get? b = some o) → h'.get? a = some (listOf (vs.take k).toArray 0) → IntsAre (vs.take k) (ks.take k) → Q (.ref a) { s₂ with heap := h' }
/-- xs[:k] of a list of ints -/
theorem upto_k {value e : Expr} {p pos : Pos} {Q : Value → Shared → Prop}
    (h : wpAny (model pg w) A (eval value env) (fun o s₁ => wpAny (model pg w) A (eval e env) (fun kv s₂ => ∃ l vs ks k t, UptoI Q o kv s₂ l vs ks k t) E s₁) E s) :
    wpAny (model pg w) A (eval (.Subscript value (.Slice none (some e) none p) pos) env) Q E s := by
  refine sub_slice (wpAny_mono h (fun o s₁ h₁ => ?_) fun _ _ q => q)
  rw [evalPart_none]
  refine wpAny_pure ?_
  rw [evalPart_some]
  refine wpAny_mono h₁ (fun kv s₂ h₂ => ?_) fun _ _ q => q
  obtain ⟨l, vs, ks, k, t, rfl, hl, hi, hz, rfl, hq⟩ := h₂
  refine ⟨l, vs.toArray, none, some (k : Nat), rfl, hl, by rw [List.size_toArray, hi.length, sizeLine_eq]; exact ar1 hz, .none, .int _ _, ?_⟩
  rw [slicePick_upto', show vs.toArray.toList = vs from rfl]
  refine hq _ _ (none_of_ge (Nat.le_succ _)) (fun b o e => Heap.get?_push_of_some _ (Heap.get?_push_of_some _ e)) ?_ (ints_take hi k)
  have z := Heap.get?_push_size (s₂.heap.push { cls := .type "slice", data := .fields #[.none, .int ((k : Nat) : Int) t, .none] }) (o := listOf (vs.take k).toArray 0) rfl
  rw [Heap.size_push] at z
  exact z
end
end Mine

namespace Mine
section
variable {w : World} {mg mb : Str → Option Value} {g : Heap} {L : Addr} {D : List Addr} {s : Shared} {A : Around} {E : Value → Shared → Prop}
  {x y : Str} {pos spos : Pos} {env : Env}
structure RngA (w : World) (A : Around) (env : Env) (scope : Scope) (cl : List (Str × Addr)) (x : Str) (ifs : List Expr) (elt : Expr) (p : Value → Bool) (F : Value → Value → Prop) (mg mb : Str → Option Value) (g : Heap) (L : Addr) (D : List Addr) (y : Str) (Q : Flow → Shared → Prop) (xv : Value) (s₁ : Shared) (r : Addr) (a : Int) (n : Nat) (t u v' : Tok) (m : Str → Option Value) (own : List (Addr × Obj)) : Prop where
  xv : xv = .ref r
  hr : IsRange s₁.heap r a (a + (n : Nat)) 1 t u v'
  ha0 : 0 ≤ a
  ha1 : a ≤ 1000
  hn : n ≤ 1000
  C : Cx w mg mb g L D m own s₁.heap
  tests : ∀ B v s₃ m₃ E', (∃ j t, j < n ∧ v = .int (a + (j : Nat)) t) → s₃.heap.Ns B m₃ → m₃ x = some v → (∀ b o, s₁.heap.get? b = some o → s₃.heap.get? b = some o) →
        wpAny (model pg w) A (forIn ifs true fun c r => if r = true then do let ok ← isTrue c (compEnvC scope cl B env) (eval c (compEnvC scope cl B env)); pure (ForInStep.yield ok) else pure (ForInStep.yield r)) (fun ok s₄ => ok = p v ∧ Keeps s₃ s₄) E' s₃
  elt : ∀ B v s₃ m₃ E', (∃ j t, j < n ∧ v = .int (a + (j : Nat)) t) → p v = true → s₃.heap.Ns B m₃ → m₃ x = some v → (∀ b o, s₁.heap.get? b = some o → s₃.heap.get? b = some o) →
        wpAny (model pg w) A (eval elt (compEnvC scope cl B env)) (fun y s₄ => F v y ∧ Keeps s₃ s₄) E' s₃
  res : ∀ D' h' tk ys vs, s₁.heap.get? D' = none → h'.PlainList D' ys → IntsAre vs ((List.range n).map fun j => a + (j : Nat)) → Paired F (vs.filter p) ys.toList → Cx w mg mb g L D (fun z => if z = y then some (.ref D') else m z) own h' → Q .next { s₁ with heap := h', toks := tk }
/-- y = [.. for x in range(..)], tests and element only reading -/
theorem as_comp_range {elt iter : Expr} {px py : Pos} {ifs : List Expr} {scope : Scope} {cl : List (Str × Addr)} {Q : Flow → Shared → Prop} (p : Value → Bool) (F : Value → Value → Prop) (hh : A.handled = none) (hL : env.locals = L)
    (hsw : swapsWith (.ListComp elt [⟨.Name x px, iter, ifs, 0⟩] scope pos) (some (.Name y py)) spos.line env = pure true)
    (hclos : closureFor scope env = pure cl) (hcell : ∀ y ∈ scope.names, y.2 ≠ .cell) (hkind : scope.kind = .function)
    (hnames : ∀ y ∈ scope.names, y.2 = .local → scope.names.lookup y.1 = some .local) (hx : scope.names.lookup x = some .local)
    (hy : env.kindOf y = some .local) (hk : env.scope.kind = .function)
    (h : wpAny (model pg w) A (eval iter env) (fun xv s₁ => ∃ r a n t u v' m own, RngA w A env scope cl x ifs elt p F mg mb g L D y Q xv s₁ r a n t u v' m own) E s)
    (hs : ∀ x, foldedSetIterable iter env x = pure x := by intro _; rfl) :
    wpAny (model pg w) A (exec (.Assign [.Name y py] (.ListComp elt [⟨.Name x px, iter, ifs, 0⟩] scope pos) spos) env) Q E s := by
  refine wpAny_Assign_ListComp_free (cl := cl) p F hsw hclos hcell hkind hnames hx hy (by rw [hk]; rfl) (wpAny_mono h (fun xv s₁ h₁ => ?_) fun _ _ q => q) hs
  obtain ⟨r, a, n, t, u, v', m, own, rfl, hr, ha0, ha1, hn, C, ht, he, hq⟩ := h₁
  have hsm : Builtin.Range.small a (a + (n : Nat)) 1 = true := by unfold Builtin.Range.small Builtin.Range.rangeFitsLong Builtin.Range.rangeSize; simp; omega
  refine wpAny_pyIter_range hr hsm ?_
  have hsz : Builtin.Range.rangeSize a (a + (n : Nat)) 1 = n := by unfold Builtin.Range.rangeSize; simp; omega
  rw [hsz]
  have keep : ∀ b o, s₁.heap.get? b = some o → (s₁.heap.push { cls := .type "range_iterator", data := .fields #[rawInt a, rawInt (n : Nat), rawInt 1] }).get? b = some o := fun b o e => Heap.get?_push_of_some _ e
  have nI : ∀ {b o}, s₁.heap.get? b = some o → b ∉ [s₁.heap.objs.size] := fun e q => absurd (List.mem_singleton.mp q) (Nat.ne_of_lt (Heap.lt_size e))
  refine ⟨_, _, _, _, _, _, m, rfl, Walks.bound (Walks.range (prog := pg) (w := w) (A := A) hh s₁.heap.objs.size a 1 n), by rw [sizeLine_eq]; omega, ?_, ?_, ?_, ?_, ⟨?_, ?_⟩, ?_⟩
  · have : (s₁.heap.push { cls := .type "range_iterator", data := .fields #[rawInt a, rawInt (n : Nat), rawInt 1] }).get? s₁.heap.objs.size = some { cls := .type "range_iterator", data := .fields #[rawInt a, rawInt (n : Nat), rawInt 1] } := Heap.get?_push_size _ rfl
    show (s₁.heap.push { cls := .type "range_iterator", data := .fields #[rawInt a, rawInt (n : Nat), rawInt 1] }).get? s₁.heap.objs.size = some { cls := .type "range_iterator", data := .fields #[rawInt (a + ((0 : Nat) : Int) * 1), rawInt ((n : Int) - ((0 : Nat) : Int)), rawInt 1] }
    rw [show a + ((0 : Nat) : Int) * 1 = a by omega, show (n : Int) - ((0 : Nat) : Int) = n by omega]; exact this
  · intro b hb
    simp only [List.mem_cons, List.not_mem_nil, or_false] at hb
    rcases hb with rfl
    show _ < (s₁.heap.push _).objs.size; rw [Heap.size_push]; exact Nat.lt_succ_self _
  · rw [hL]; exact fun q => absurd (List.mem_singleton.mp q) (Nat.ne_of_lt C.ns.lt)
  · rw [hL]; exact C.ns.push _
  · intro B i v s₃ m₃ E' _ hP hn' hm hk _
    obtain ⟨hi, t, rfl⟩ := hP
    exact ht B _ s₃ m₃ E' ⟨i, t, hi, by rw [Int.mul_one]⟩ hn' hm fun b o e => hk b o (nI e) (keep b o e)
  · intro B i v s₃ m₃ E' _ hP hpv hn' hm hk _
    obtain ⟨hi, t, rfl⟩ := hP
    exact he B _ s₃ m₃ E' ⟨i, t, hi, by rw [Int.mul_one]⟩ hpv hn' hm fun b o e => hk b o (nI e) (keep b o e)
  · intro D' h' tk ys vs hD _ hpl hlen hP hF hns hk
    have ev : IntsAre vs ((List.range n).map fun j => a + (j : Nat)) := by
      refine ints_of_get _ _ (by simpa using hlen) fun j v hv => ?_
      obtain ⟨hj, t, rfl⟩ := hP j v hv
      exact ⟨a + (j : Nat), t, by simp [hj], by rw [Int.mul_one]⟩
    have hD1 : s₁.heap.get? D' = none := by
      cases q : s₁.heap.get? D' with
      | none => rfl
      | some o => have := keep _ _ q; rw [show (s₁.heap.push _).get? D' = none from hD] at this; cases this
    rw [hL] at hns hk
    refine hq D' h' tk ys vs hD1 hpl ev hF (C.of ⟨hns, fun b o e => ?_, C.fr.above⟩ fun p hp => ?_)
    · have e1 := C.fr.keep b o e
      exact hk b o (Nat.ne_of_lt (Nat.lt_of_lt_of_le (Heap.lt_size e) C.fr.above)) (nI e1) (keep b o e1)
    · have y := C.nw p hp
      exact ⟨hk _ _ y.2.1 (nI y.1) (keep _ _ y.1), y.2⟩
end
end Mine

namespace Mine
def heardF (row : List Int) : List Int := if (127 : Int) ∈ row then row.take (row.idxOf 127) else row
def sizesF (heard : List Int) : List Int := if (0 : Int) ∈ heard then heard.take (heard.idxOf 0) else heard
def cuts1 (sizes : List Int) : List Int := (List.range (sizes.length + 1)).map fun c => (sizes.take c).sum
def cuts2 (sizes : List Int) : List Int := (List.range 12).map fun (c : Nat) => sizes.sum + sizes.getD (sizes.length - 1) 0 * (1 + (c : Int))
def dueF (row : List Int) : Option (List Int) :=
  if row.take 1 = [0] then none else some ((cuts1 (sizesF (heardF row)) ++ (if (0 : Int) ∈ heardF row then cuts2 (sizesF (heardF row)) else [])).take 13)
section
variable {w : World} {mg mb : Str → Option Value} {A : Around} {s : Shared}
theorem Cx.has {g : Heap} {L : Addr} {m : Str → Option Value} {own : List (Addr × Obj)} {h : Heap} {a : Addr} {o : Obj} (C : Cx w mg mb g L [] m own h) (ha : (a, o) ∈ own ∨ g.get? a = some o) : h.get? a = some o := by
  rcases ha with ha | ha
  · exact C.get ha
  · exact C.keep ha (by simp)
theorem g_built {E : Value → Shared → Prop} {env : Env} {x : Str} {pos : Pos} {v : Value} {Q : Value → Shared → Prop} (G : Gd w mg mb s.heap) (e : nsIn (Kf w) mainGlobals x = some none) (hv : bootBuiltins x = some v) (hx : x ≠ "__name__") (h : Q v s) (hG : env.globals = mainGlobals := by rfl) (hB : env.builtins = builtinsNs := by rfl)
    (hk : env.scope.kind = .function := by rfl) (hl : env.kindOf x = some .globalImplicit := by rfl)
    (hd : (x == ("__debug__" : Str)) = false := by rfl) : wpAny (model pg w) A (eval (.Name x pos) env) Q E s := by
  refine wpAny_Name ?_ hd
  rw [loadName_read hk hl]
  unfold loadGlobal
  rw [hG, hB]
  refine wpAny_bind (wpAny_nsGet G.g ?_)
  rw [mg_none_of G.X G.g e]
  refine wpAny_bind (wpAny_nsGet G.b ?_)
  rw [G.nb x hx, hv]
  exact wpAny_pure h
theorem due_spec {R : Result → Shared → Prop} {ra : Addr} {rv : List Value} {rn : Nat} {row : List Int} (G : Gd w mg mb s.heap) (hh : A.handled = none) (hroom : A.depth < recursionLimit) (hu : A.units + 200 < cLine)
    (hra : s.heap.get? ra = some (listOf rv.toArray rn)) (hi : IntsAre rv row) (hlen : row.length ≤ 10) (hb : ∀ k ∈ row, 0 ≤ k ∧ k ≤ 127)
    (h : ∀ h' v tk, (∀ b o, s.heap.get? b = some o → h'.get? b = some o) → (∀ a, v = .ref a → s.heap.get? a = none) → Opt h' v (dueF row) → R (.ok (.ret v)) { s with heap := h', toks := tk }) :
    codeAny (model pg w) A (.call (.ref 158) ⟨[.ref ra], []⟩) R s := by
  refine enterC (binds := [("row", .ref ra)]) G (by exact ar33 hroom) rfl (by with_unfolding_all rfl) rfl rfl rfl rfl rfl ?_
  intro h₁ tk hns hk hcell J₀ E₀ hJ₀ hN₀
  have C0 : Cx w mg mb s.heap s.heap.objs.size [] _ [] h₁ := Cx.start0 G hns hk
  obtain ⟨hLs, os, hos, hds⟩ := hcell "sizes" (s.heap.objs.size + 1) rfl
  have C := C0.add hos (Nat.ne_of_gt hLs) (C0.hid (Nat.le_of_lt hLs))
  let cs := s.heap.objs.size + 1
  refine wpAny_execs_cons (wpAny_mono (Q := fun fl s' => ∃ h' tk m', s' = { s with heap := h', toks := tk } ∧ Cx w mg mb s.heap s.heap.objs.size [] m' [(cs, os)] h' ∧ ((fl = .next ∧ row.take 1 ≠ [0] ∧ m' "row" = some (.ref ra)) ∨ (fl = .ret .none ∧ row.take 1 = [0]))) ?_ (fun fl s' hq => ?_) fun _ _ q => q)
  · refine absQE fun Q₁ E₁ hQ₁ => ?_
    refine wpAny_If (wpAny_isTrue_Compare1 (upto_k (e_loc C rfl (wpAny_Constant_int ⟨ra, rv, row, 1, _, rfl, isList_of (C.has (.inr hra)), hi, by exact ar34 hlen, rfl, fun h2 a2 hn2 hk2 ha2 hi2 => ?_⟩))))
    have C2 := C.gain hk2 hn2 ha2
    refine wpAny_List (wpAny_items_cons (wpAny_Constant_int (wpAny_items_nil ⟨by show 1 ≤ sizeLine; decide, ?_⟩)))
    have C3 := fun o ho => C2.push (o : Obj) ho
    refine eq_intsK (vs := rv.take 1) (us := [.int 0 _]) (isList_of ((C3 _ rfl).get (.tail _ (.head _)))) hi2 (isList_of ((C3 _ rfl).get (.head _))) (.cons 0 _ .nil) (by show A.units + 3 + 64 < _; exact ar35 hu) (wpAny_truthy_bool ?_)
    have sub : ∀ o ho, Cx w mg mb s.heap s.heap.objs.size [] _ [(cs, os)] (h2.push o) := fun o ho => (C3 o ho).sub fun p hp => by rcases List.mem_singleton.mp hp with rfl; exact .tail _ (.tail _ (.head _))
    by_cases hz : row.take 1 = [0]
    · rw [if_pos (by simp [hz])]
      refine wpAny_execs_cons (wpAny_Return_some (wpAny_Constant_none ?_))
      exact hQ₁ _ _ ⟨_, _, _, rfl, sub _ rfl, .inr ⟨rfl, hz⟩⟩
    · rw [if_neg (by simp [hz])]
      refine wpAny_execs_nil ?_
      exact hQ₁ _ _ ⟨_, _, _, rfl, sub _ rfl, .inl ⟨rfl, hz, rfl⟩⟩
  obtain ⟨h4, tk4, m4, rfl, C4, hq⟩ := hq
  rcases hq with ⟨rfl, hz, hm4⟩ | ⟨rfl, hz⟩
  rotate_left
  · exact hJ₀ _ _ (h h4 .none tk4 (fun b o e => C4.keep e (by simp)) (fun _ q => nomatch q) (by unfold dueF; rw [if_pos hz]; rfl))
  have rI : ∀ {m own h}, Cx w mg mb s.heap s.heap.objs.size [] m own h → h.get? ra = some (listOf rv.toArray rn) := fun C => C.has (.inr hra)
  -- heard
  refine wpAny_execs_cons (wpAny_mono (Q := fun fl s' => fl = .next ∧ ∃ h' tk m' own' ha hv n, s' = { s with heap := h', toks := tk } ∧ Cx w mg mb s.heap s.heap.objs.size [] m' ((cs, os) :: own') h' ∧ ((ha, listOf hv.toArray n) ∈ own' ∨ s.heap.get? ha = some (listOf hv.toArray n)) ∧ IntsAre hv (heardF row) ∧ m' "heard" = some (.ref ha) ∧ ∀ p ∈ own', p.1 ≠ cs) ?_ (fun fl s' hq => ?_) fun _ _ q => q)
  · refine absQE fun Q₁ E₁ hQ₁ => ?_
    refine wpAny_Assign_Name (wpAny_IfExp (wpAny_isTrue_Compare1 (wpAny_Constant_int (e_loc C4 hm4 (in_ints (isList_of (rI C4)) hi (wpAny_truthy_bool ?_))))))
    by_cases hm : (127 : Int) ∈ row
    · rw [if_pos (by simp [hm])]
      refine upto_k (e_loc C4 hm4 (MethodCall_ (e_loc C4 hm4 (getMethod_list_of PySem.F.slot_list_index PySem.F.type_list_index (isList_of (rI C4)) ⟨_, rI C4, rfl⟩ (callWith_method1 (wpAny_items_cons (wpAny_Constant_int (wpAny_items_nil (index_k (rI C4) hi hm (by exact ar34 hlen) ?_)))))))))
      refine ⟨ra, rv, row, row.idxOf 127, _, rfl, isList_of (rI C4), hi, by exact ar34 hlen, rfl, fun h5 a5 hn5 hk5 ha5 hi5 => ?_⟩
      refine e_st (C4.gain hk5 hn5 ha5) fun h6 C6 => ?_
      refine hQ₁ _ _ ⟨rfl, h6, _, _, _, a5, rv.take (row.idxOf 127), 0, rfl, C6.sub (own' := [(cs, os), (a5, _)]) fun p hp => ?_, .inl (.head _), ?_, rfl, fun p hp => ?_⟩
      · simp only [List.mem_cons, List.not_mem_nil, or_false] at hp ⊢
        rcases hp with h | h <;> simp [h, cs]
      · unfold heardF; rw [if_pos hm]; exact hi5
      · rcases List.mem_singleton.mp hp with rfl
        intro e
        have e1 := C6.get (a := a5) (.head _)
        rw [show a5 = cs from e, C6.get (a := cs) (.tail _ (.head _))] at e1
        have := Option.some.inj e1
        rw [this] at hds; simp at hds
    · rw [if_neg (by simp [hm])]
      refine e_loc C4 hm4 (e_st C4 fun h6 C6 => ?_)
      refine hQ₁ _ _ ⟨rfl, h6, _, _, [], ra, rv, rn, rfl, C6.sub fun p hp => ?_, .inr hra, ?_, rfl, fun _ q => nomatch q⟩
      · exact hp
      · unfold heardF; rw [if_neg hm]; exact hi
  obtain ⟨rfl, h5, tk5, m5, own5, ha, hv, nh, rfl, C5, hmem5, hi5, hm5, hne5⟩ := hq
  have hlen5 : (heardF row).length ≤ 10 := by unfold heardF; split; · rw [List.length_take]; exact ar36 hlen
                                              · exact hlen
  have hI5 : ∀ {m own h}, Cx w mg mb s.heap s.heap.objs.size [] m own h → (∀ p ∈ own5, p ∈ own) → h.get? ha = some (listOf hv.toArray nh) := fun C hs => C.has (hmem5.imp (hs _) id)
  -- sizes
  refine wpAny_execs_cons (wpAny_mono (Q := fun fl s' => fl = .next ∧ ∃ h' tk os' own' sa sv n, s' = { s with heap := h', toks := tk } ∧ Cx w mg mb s.heap s.heap.objs.size [] m5 ((cs, os') :: own') h' ∧ os'.data = .cell (some (.ref sa)) ∧ ((sa, listOf sv.toArray n) ∈ own' ∨ s.heap.get? sa = some (listOf sv.toArray n)) ∧ IntsAre sv (sizesF (heardF row)) ∧ ∀ p ∈ own5, p ∈ own') ?_ (fun fl s' hq => ?_) fun _ _ q => q)
  · refine absQE fun Q₁ E₁ hQ₁ => ?_
    refine wpAny_Assign_Name (wpAny_IfExp (wpAny_isTrue_Compare1 (wpAny_Constant_int (e_loc C5 hm5 (in_ints (isList_of (hI5 C5 fun p hp => .tail _ hp)) hi5 (wpAny_truthy_bool ?_))))))
    have hh5 := hI5 C5 fun p hp => .tail _ hp
    by_cases hm : (0 : Int) ∈ heardF row
    · rw [if_pos (by simp [hm])]
      refine upto_k (e_loc C5 hm5 (MethodCall_ (e_loc C5 hm5 (getMethod_list_of PySem.F.slot_list_index PySem.F.type_list_index (isList_of hh5) ⟨_, hh5, rfl⟩ (callWith_method1 (wpAny_items_cons (wpAny_Constant_int (wpAny_items_nil (index_k hh5 hi5 hm (by exact ar34 hlen5) ?_)))))))))
      refine ⟨ha, hv, heardF row, (heardF row).idxOf 0, _, rfl, isList_of hh5, hi5, by exact ar34 hlen5, rfl, fun h6 a6 hn6 hk6 ha6 hi6 => ?_⟩
      have C6 := C5.gain hk6 hn6 ha6
      have a6s : a6 ≠ cs := fun e => by
        have hn6 : h5.get? a6 = none := hn6
        rw [e, C5.get (.head _)] at hn6; cases hn6
      refine e_stc C6 (.tail _ (.head _)) hds fun h7 os7 hd7 C7 => ?_
      refine hQ₁ _ _ ⟨rfl, h7, _, os7, (a6, listOf (hv.take ((heardF row).idxOf 0)).toArray 0) :: own5, a6, _, 0, rfl, C7 _ (Upd.here (Upd.other a6s (.head _) (Upd.rest fun p hp => ⟨hne5 p hp, .tail _ (.tail _ hp)⟩))), hd7, .inl (.head _), ?_, fun p hp => .tail _ hp⟩
      unfold sizesF; rw [if_pos hm]; exact hi6
    · rw [if_neg (by simp [hm])]
      refine e_loc C5 hm5 (e_stc C5 (.head _) hds fun h7 os7 hd7 C7 => ?_)
      refine hQ₁ _ _ ⟨rfl, h7, _, os7, own5, ha, hv, nh, rfl, C7 _ (Upd.here (Upd.rest fun p hp => ⟨hne5 p hp, .tail _ hp⟩)), hd7, hmem5, ?_, fun p hp => hp⟩
      unfold sizesF; rw [if_neg hm]; exact hi5
  obtain ⟨rfl, h6, tk6, os6, own6, sa, sv, nz, rfl, C6, hd6, hmem6, hi6, hsub6⟩ := hq
  have hlen6 : (sizesF (heardF row)).length ≤ 10 := by unfold sizesF; split; · rw [List.length_take]; exact ar36 hlen5
                                                       · exact hlen5
  have hI6 : ∀ {m own h}, Cx w mg mb s.heap s.heap.objs.size [] m own h → (∀ p ∈ own6, p ∈ own) → h.get? sa = some (listOf sv.toArray nz) := fun C hs => C.has (hmem6.imp (hs _) id)
  generalize hzs : sizesF (heardF row) = sizes at hi6 hlen6
  have hsub6' : ∀ p ∈ own6, p ∈ (cs, os6) :: own6 := fun p hp => .tail _ hp
  have hs6 := hI6 C6 hsub6'
  -- cuts
  refine wpAny_execs_cons (as_comp_range (g := s.heap) (L := s.heap.objs.size) (D := []) (mg := mg) (mb := mb) (cl := [("sizes", cs)]) (fun _ => true) (fun v y => ∃ k t, v = .int k t ∧ ∃ t', y = .int ((sizes.take k.toNat).sum) t') hh rfl (by rfl) (by rfl) (by decide) rfl (by decide) rfl rfl rfl ?_)
  refine Call_ (e_built (v := .type "range") C6 (by with_unfolding_all rfl) (by decide +kernel) (by decide) ?_)
  refine PyProof.Rows.callWith_type1 (wpAny_items_cons (wpAny_BinOp (Call_ (e_built (v := .builtin "len") C6 (by with_unfolding_all rfl) boot_len (by decide) ?_))))
  refine PyProof.Rows.callWith_builtin1 (wpAny_items_cons (e_cell C6 (.head _) hd6 (wpAny_items_nil ?_)))
  refine PyProof.Rows.len_list (isList_of hs6) (by rw [List.size_toArray, hi6.length]; exact ar37 hlen6) ?_
  refine wpAny_Constant_int (add_int (wpAny_items_nil (call_range_1 ?_)))
  have hsz : ((sv.toArray.size : Int) + 1) = 0 + ((sizes.length + 1 : Nat) : Int) := by rw [List.size_toArray, hi6.length]; exact ar38
  have C7 := fun o ho => C6.push (o : Obj) ho
  rw [hsz]
  refine ⟨_, 0, sizes.length + 1, _, _, _, m5, (cs, os6) :: own6, rfl, (C7 _ rfl).get (.head _), by decide, by decide, by exact ar39 hlen6, (C7 _ rfl).sub fun p hp => .tail _ hp, ?_, ?_, ?_⟩
  · intro B v s₃ m₃ E' hv hn3 hm3 hk3
    exact wpAny_tests_nil ⟨rfl, ⟨_, _, rfl, fun _ _ e => e⟩⟩
  · intro B v s₃ m₃ E' hv _ hn3 hm3 hk3
    obtain ⟨j, t, hj, rfl⟩ := hv
    have k3 : ∀ b o, h6.get? b = some o → s₃.heap.get? b = some o := fun b o e => hk3 b o (Heap.get?_push_of_some _ e)
    have G3 : Gd w mg mb s₃.heap := C6.G.keeps fun b o _ e => k3 b o e
    refine Call_ (g_built (v := .builtin "sum") G3 (by with_unfolding_all rfl) (by decide +kernel) (by decide) ?_)
    refine PyProof.Rows.callWith_builtin1 (wpAny_items_cons (upto_k (wpAny_Name (wpAny_loadName_cell rfl rfl rfl ⟨os6, k3 _ _ (C6.get (.head _)), hd6⟩ (wpAny_Name (wpAny_loadName_local rfl rfl hn3 hm3 ?_) rfl)) rfl)))
    refine ⟨sa, sv, sizes, j, t, rfl, isList_of (k3 _ _ hs6), hi6, by exact ar34 hlen6, by rw [Int.zero_add], fun h8 a8 hn8 hk8 ha8 hi8 => wpAny_items_nil ?_⟩
    refine sum_k hh (isList_of ha8) hi8 fun h9 tk9 t9 hk9 => ⟨⟨_, t, rfl, t9, ?_⟩, ⟨_, _, rfl, fun b o e => hk9 _ _ (hk8 _ _ e)⟩⟩
    rw [Int.zero_add, Int.toNat_natCast]
  intro D' h8 tk8 ys vs hD hpl hvs hF C8
  have hys : IntsAre ys.toList (cuts1 sizes) := by
    have := paired_map (f := fun k => (sizes.take k.toNat).sum) (F := fun v y => ∃ k t, v = .int k t ∧ ∃ t', y = .int ((sizes.take k.toNat).sum) t') hvs (fun k t y _ h => by obtain ⟨k', t', e, t2, rfl⟩ := h; cases e; exact ⟨t2, rfl⟩) (by rw [List.filter_eq_self.mpr (fun _ _ => rfl)] at hF; exact hF)
    rw [List.map_map] at this
    unfold cuts1
    refine (?_ : (List.range (sizes.length + 1)).map _ = _) ▸ this
    refine List.map_congr_left fun j _ => ?_
    show _ = (sizes.take (0 + (j : Int)).toNat).sum
    rw [Int.zero_add, Int.toNat_natCast]
  obtain ⟨nc, hpl⟩ := hpl
  have hD6 : h6.get? D' = none := by
    cases q : h6.get? D' with
    | none => rfl
    | some o => exact absurd (hD.symm.trans (Heap.get?_push_of_some _ q)) (by simp)
  have C9 := C8.add hpl (fun e => by
      obtain ⟨oL, _, _, hoL, _⟩ := C6.ns
      rw [show D' = _ from e, hoL] at hD6; cases hD6) (by
      cases q : (hideAll s.heap []).get? D' with
      | none => rfl
      | some o => have := C6.fr.keep _ _ q; rw [hD6] at this; cases this)
  have hcl : (cuts1 sizes).length ≤ 11 := by unfold cuts1; rw [List.length_map, List.length_range]; exact ar40 hlen6
  have hsub9 : ∀ p ∈ own6, p ∈ (D', listOf ys nc) :: (cs, os6) :: own6 := fun p hp => .tail _ (.tail _ hp)
  refine wpAny_execs_cons (wpAny_mono (Q := fun fl s' => fl = .next ∧ ∃ h' tk m' us n, s' = { s with heap := h', toks := tk } ∧ Cx w mg mb s.heap s.heap.objs.size [] m' [(D', listOf us.toArray n)] h' ∧ m' "cuts" = some (.ref D') ∧ IntsAre us (cuts1 sizes ++ (if (0 : Int) ∈ heardF row then cuts2 sizes else []))) ?_ (fun fl s' hq => ?_) fun _ _ q => q)
  · refine absQE fun Q₁ E₁ hQ₁ => ?_
    refine wpAny_If (wpAny_isTrue_Compare1 (wpAny_Constant_int (e_loc C9 hm5 (in_ints (isList_of (hI5 C9 fun p hp => hsub9 _ (hsub6 p hp))) hi5 (wpAny_truthy_bool ?_)))))
    by_cases hm : (0 : Int) ∈ heardF row
    · rw [if_pos (by simp [hm])]
      rw [if_pos hm] at hQ₁
      have hs9 := hI6 C9 hsub9
      have hne : sizes ≠ [] := by
        rw [← hzs]; unfold sizesF; rw [if_pos hm]
        have h1 : heardF row ≠ [] := fun e => by rw [e] at hm; cases hm
        have h2 : (heardF row).idxOf 0 ≠ 0 := fun e => by
          cases hr : heardF row with
          | nil => exact h1 hr
          | cons a l =>
            rw [hr] at e
            have ha : a = 0 := by
              rw [List.idxOf_cons] at e
              by_cases z : a = 0
              · exact z
              · have z' : (a == 0) = false := by simp [z]
                rw [z'] at e; simp at e
            have hrow : row.take 1 = [0] := by
              unfold heardF at hr
              split at hr
              · cases row with
                | nil => simp at hr
                | cons b r =>
                  have : (b :: r).take 1 = [b] := rfl
                  rw [this]
                  cases hk : (b :: r).idxOf 127 with
                  | zero => rw [hk] at hr; simp at hr
                  | succ k => rw [hk] at hr; simp at hr; rw [hr.1, ha]
              · rw [hr, ha]; rfl
            exact hz hrow
        intro e
        rcases List.take_eq_nil_iff.mp e with e | e
        · exact h2 e
        · exact h1 e
      have hpos : 0 < sizes.length := List.length_pos_iff.mpr hne
      refine wpAny_execs_cons (wpAny_Expr_any (MethodCall_ (e_loc C9 rfl (getMethod_list_of PySem.F.slot_list_extend PySem.F.type_list_extend (isList_of (C9.get (.head _))) ⟨_, C9.get (.head _), rfl⟩ ?_))) (by rfl) (by rfl))
      refine callWith_method1 (wpAny_items_cons (comp_range (cl := [("sizes", cs)]) (fun _ => true) (fun v y => ∃ k t, v = .int k t ∧ ∃ t', y = .int (sizes.sum + sizes.getD (sizes.length - 1) 0 * k) t') hh (by rfl) (by decide) rfl (by decide) rfl ?_))
      refine Call_ (e_built (v := .type "range") C9 (by with_unfolding_all rfl) (by decide +kernel) (by decide) ?_)
      refine PyProof.Rows.callWith_type1 (wpAny_items_cons (wpAny_Constant_int (wpAny_items_cons (wpAny_Constant_int (wpAny_items_nil (call_range_2 ?_))))))
      refine ⟨_, 1, 12, _, _, _, rfl, (C9.push _).get (.head _), by decide, by decide, by decide, ?_, ?_, ?_⟩
      · intro B v s₃ m₃ E' hv hn3 hm3 hk3
        exact wpAny_tests_nil ⟨rfl, ⟨_, _, rfl, fun _ _ e => e⟩⟩
      · intro B v s₃ m₃ E' hv _ hn3 hm3 hk3
        obtain ⟨j, t, hj, rfl⟩ := hv
        have k3 : ∀ b o, h8.get? b = some o → s₃.heap.get? b = some o := fun b o e => hk3 b o (Heap.get?_push_of_some _ e)
        have G3 : Gd w mg mb s₃.heap := C9.G.keeps fun b o _ e => k3 b o e
        have cellS : ∀ {h : Heap}, (∀ b o, s₃.heap.get? b = some o → h.get? b = some o) → h.IsCell cs (some (.ref sa)) := fun hk => ⟨os6, hk _ _ (k3 _ _ (C9.get (.tail _ (.head _)))), hd6⟩
        refine wpAny_BinOp (Call_ (g_built (v := .builtin "sum") G3 (by with_unfolding_all rfl) (by decide +kernel) (by decide) ?_))
        refine PyProof.Rows.callWith_builtin1 (wpAny_items_cons (wpAny_Name (wpAny_loadName_cell rfl rfl rfl (cellS fun _ _ e => e) (wpAny_items_nil ?_)) rfl))
        refine sum_k hh (isList_of (k3 _ _ hs9)) hi6 fun h10 tk10 t10 hk10 => ?_
        refine wpAny_BinOp (Subscript_ (wpAny_Name (wpAny_loadName_cell rfl rfl rfl (cellS hk10) (wpAny_UnaryOp (wpAny_Constant_int (PySem.P.neg_int ?_)))) rfl))
        have hl10 : h10.IsList sa sv.toArray := isList_of (hk10 _ _ (k3 _ _ hs9))
        obtain ⟨tl, hat⟩ := ia_at hi6 (i := sizes.length - 1) (by exact ar41 hpos)
        have hsl := hi6.length
        refine tail_any (ops := [.ref sa, .int (-1) _]) (Heap.IsList.typeIs (s := { s₃ with heap := h10, toks := _ }) hl10) slot_list_getitem.lookup (wpAny_getItem_list_neg hl10 (by decide) (by rw [List.size_toArray]; exact ar42 hpos hsl) (by decide) (x := .int (sizes.getD (sizes.length - 1) 0) tl) (by rw [List.size_toArray, show ((-1 : Int) + (sv.length : Nat)).toNat = sizes.length - 1 by exact ar43 hsl]; simpa using hat) ?_) rfl
        refine wpAny_Name (wpAny_loadName_local rfl rfl (hn3.keeps hk10) hm3 ?_) rfl
        refine mul_int (add_int ⟨⟨_, t, rfl, _, rfl⟩, ⟨_, _, rfl, fun b o e => hk10 b o e⟩⟩) (PySem.IntMulOk.of_right (PySem.intBits_le_64 (by exact ar44) (by exact ar45 hj)))
      · intro D2 h10 tk10 ys2 vs2 hD2 hpl2 hvs2 hF2 hk10
        have hys2 : IntsAre ys2.toList (cuts2 sizes) := by
          have := paired_map (f := fun k => sizes.sum + sizes.getD (sizes.length - 1) 0 * k) (F := fun v y => ∃ k t, v = .int k t ∧ ∃ t', y = .int (sizes.sum + sizes.getD (sizes.length - 1) 0 * k) t') hvs2 (fun k t y _ h => by obtain ⟨k', t', e, t2, rfl⟩ := h; cases e; exact ⟨t2, rfl⟩) (by rw [List.filter_eq_self.mpr (fun _ _ => rfl)] at hF2; exact hF2)
          rw [List.map_map] at this
          exact this
        obtain ⟨n2, hpl2⟩ := hpl2
        have C10 := C9.call0 (h' := h10) fun b o e => hk10 _ _ (Heap.get?_push_of_some _ e)
        have l1 : ys.size ≤ 11 := by rw [← Array.length_toList, hys.length]; exact hcl
        have l2 : ys2.size = 12 := by rw [← Array.length_toList, hys2.length]; unfold cuts2; rw [List.length_map, List.length_range]
        refine wpAny_items_nil (call_meets PySem.F.slot_list_extend ⟨_, C10.get (.head _), rfl⟩ PySem.F.entry_list_extend (PySem.F.args_list_extend_2 _ _) (AutoSeq1.list_extend_list_list_0 D' ys nc D2 ys2 n2 ?_ (by rw [sizeLine_eq]; exact ar46 l1) (by rw [sizeLine_eq]; exact ar47 l1 l2)) ⟨C10.get (.head _), hpl2, ?_⟩)
        · unfold Builtin.List.listTooLong
          rw [l2]
          simp only [Bool.and_eq_true, decide_eq_true_eq, not_and]
          intro _
          rw [sizeLine_eq]; exact ar48 l1
        have upd : ∃ n', Obj.mapSeq (fun x => x ++ ys2) (listOf ys nc) = listOf (ys.toList ++ ys2.toList).toArray n' := ⟨_, by
          show Obj.mk _ _ (Data.seq (ys ++ ys2) _) _ = _
          rw [show (ys.toList ++ ys2.toList).toArray = ys ++ ys2 by simp]⟩
        obtain ⟨n', e'⟩ := upd
        have C11 : Cx w mg mb s.heap s.heap.objs.size [] _ [(D', listOf (ys.toList ++ ys2.toList).toArray n')] _ := C10.upd (f := Obj.mapSeq fun x => x ++ ys2) (.head _) rfl (by rw [e']; exact Upd.here Upd.nil)
        exact wpAny_execs_nil (hQ₁ _ _ ⟨rfl, _, _, _, _, _, rfl, C11, rfl, hys.append hys2⟩)
    · rw [if_neg (by simp [hm])]
      rw [if_neg hm, List.append_nil] at hQ₁
      refine wpAny_execs_nil (hQ₁ _ _ ⟨rfl, h8, _, _, ys.toList, nc, rfl, C9.sub fun p hp => ?_, rfl, hys⟩)
      rcases List.mem_singleton.mp hp with rfl; exact .head _
  obtain ⟨rfl, h10, tk10, m10, us, n10, rfl, C10, hm10, hi10⟩ := hq
  refine wpAny_execs_cons (wpAny_Return_some (upto_k (e_loc C10 hm10 (wpAny_Constant_int ⟨D', us, _, 13, _, rfl, isList_of (C10.get (.head _)), hi10, ?_, rfl, fun h11 a11 hn11 hk11 ha11 hi11 => ?_⟩))))
  · rw [List.length_append]
    split
    · unfold cuts2; rw [List.length_map, List.length_range]; exact ar49 hcl
    · rw [List.length_nil]; exact ar50 hcl
  refine hJ₀ _ _ (h h11 (.ref a11) _ (fun b o e => hk11 _ _ (C10.keep e (by simp))) (fun a e => ?_) ?_)
  · cases e
    cases q : s.heap.get? a11 with
    | none => rfl
    | some o => have := C10.keep q (by simp); rw [show _ = none from hn11] at this; cases this
  unfold dueF
  rw [if_neg hz, hzs]
  exact ⟨a11, _, 0, rfl, ha11, hi11, by rw [List.length_take]; exact ar51⟩
end
end Mine

namespace Mine
section
variable {M : Model} {A : Around} {E : Value → Shared → Prop} {s : Shared} {env : Env} {outer : List Env}
/-- the first frame notes a new exception -/
theorem note_first {base : Heap} {L e : Addr} {oe : Obj} {vs : Array Value} {a0 : Value} {Q : Unit → Shared → Prop} (hfr : A.frames = some (env :: outer)) (hl : s.heap.FunFrames base (env :: outer)) (hf : env.frame = some L)
    (he : s.heap.get? e = some oe) (hkb : base.StaysIn s.heap) (hen : base.get? e = none) (hd : oe.data = .fields vs) (h0 : vs[0]? = some a0) (h1 : vs[1]? = some .none)
    (h : ∀ h', Heap.HeldW base (env :: outer) e oe.cls a0 L h' → s.heap.UpToSlots h' → Q () { s with heap := h' }) : wpAny M A (noteFrame (.ref e) env) Q E s := by
  unfold noteFrame
  simp only [hf]
  refine wpAny_bind (wpAny_field he hd h1 ?_)
  rw [if_neg (by decide)]
  refine wpAny_entryW hfr hl hf he hkb hen hd (Array.getElem?_eq_some_iff.mp h1).1 h0 fun h' hN => ?_
  obtain ⟨k1, k2, k3, k4⟩ := hN
  exact h h' ⟨k1, hen, k2, k3⟩ k4
/-- the flight is said again -/
theorem flight_again {base : Heap} {l : List Env} {L e : Addr} {cls a0 : Value} {Q : Unit → Shared → Prop} (hf : env.frame = some L) (hh : Heap.HeldW base l e cls a0 L s.heap)
    (h : ∀ h', Heap.HeldW base l e cls a0 L h' → s.heap.UpToSlots h' → Q () { s with heap := h' }) :
    wpAny M A (do
        if (← field (.ref e) 1) == Value.none then unsupported "frame.own-activation:exception-without-traceback"
        setFlight (.ref e) env.frame) Q E s := by
  obtain ⟨f1, f2, f3, oe, vs, T, oT, ts, he, hcls, hd, h1, hnT, hTe, hT, hdT, h3⟩ := hh
  have hsz3 : 3 < ts.size := (Array.getElem?_eq_some_iff.mp h3).1
  refine wpAny_bind (wpAny_field he hd h1 ?_)
  rw [if_neg (show ¬ ((Value.ref T == Value.none) = true) from by simp)]
  have other : ∀ b, b ≠ T → (s.heap.update T (Obj.mapFields (·.setIfInBounds 3 (rawInt L)))).get? b = s.heap.get? b := fun b hb => Heap.get?_update_other _ _ (Ne.symm hb)
  have noRecord : ∀ b o, s.heap.get? b = some o → (∀ vs, o.data ≠ .fields vs) → b ≠ T := fun b o hb hnf q => by
    rw [q, hT] at hb; injection hb with hb; subst hb; exact hnf ts hdT
  have fin : wpAny M A (setFlight (.ref e) env.frame) Q E s := by
    unfold setFlight
    refine wpAny_bind (wpAny_field he hd h1 ?_)
    rw [if_pos (show (Value.ref T != Value.none) = true from by simp), hf]
    refine wpAny_setField hT hdT hsz3 (h _ ⟨fun b o hbo => (other b fun q => by rw [q, hnT] at hbo; cases hbo).trans (f1 b o hbo), f2, f3.of_keeps fun b o hb hnf => ⟨o, (other b (noRecord b o hb hnf)).trans hb, rfl⟩, ?_⟩ fun b o hb hn => ⟨o.slots, (other b (noRecord b o hb hn)).trans hb⟩)
    exact ⟨oe, vs, T, _, _, (other e (Ne.symm hTe)).trans he, hcls, hd, h1, hnT, hTe, Heap.get?_update_self _ hT (Obj.isFreed_of_fields (Obj.data_mapFields hdT _)), Obj.data_mapFields hdT _, by simp [hsz3]⟩
  first | exact fin | exact wpAny_bind (wpAny_pure fin)
end
end Mine

namespace Mine
inductive Ev where
  | item (k : Int)
  | stop
  | err
/-- what the j-th call of next on the intervals tells -/
def gi (last : Option Int) : List Int → Nat → Ev
  | [], _ => .stop
  | r :: rs, j => if r = 127 then .stop else if r = 0 then (match last with | none => .err | some l => .item l) else match j with
    | 0 => .item r
    | j + 1 => gi (some r) rs j
theorem gi_zero {l : Int} {rs : List Int} (j : Nat) : gi (some l) (0 :: rs) j = .item l := by simp [gi]
/-- the state when the intervals' generator hands over -/
def giOk (B : Nat) (L : Addr) (s₀ s : Shared) : Prop := (∃ h tk, s = { s₀ with heap := h, toks := tk }) ∧ (∀ b o, s₀.heap.get? b = some o → b < B → b ≠ L → s.heap.get? b = some o)
def giY (N B : Nat) (L : Addr) (Ch : List Addr) (row : List Int) : Protocol := fun n s₀ v s kap =>
  (∃ k t, v = .int k t ∧ gi none row (N - 1 - n) = .item k) ∧ giOk B L s₀ s ∧ (0 < n → ∀ s'' : Shared, (∀ b o, b ∉ Ch → s.heap.get? b = some o → s''.heap.get? b = some o) → kap (.send .none) s'')
def giErr (L : Addr) (outer : List Env) (s₀ : Shared) (e : Addr) (s : Shared) : Prop :=
  (∃ h tk, s = { s₀ with heap := h, toks := tk }) ∧ (∃ a0, Heap.FlyingW (hideAll s₀.heap (L :: frs outer)) outer e (.type "ValueError") a0 s.heap) ∧ ∀ b o, s₀.heap.get? b = some o → b ≠ L → (∀ vs, o.data ≠ .fields vs) → ∃ sl, s.heap.get? b = some { o with slots := sl }
def giR (N B : Nat) (L : Addr) (outer : List Env) (row : List Int) : GenEnd := fun n s₀ r s =>
  (r = .ok (.ret .none) ∧ gi none row (N - n) = .stop ∧ giOk B L s₀ s) ∨ (∃ e, r = .error (.ref e) ∧ gi none row (N - n) = .err ∧ giErr L outer s₀ e s)
noncomputable def giFor (w : World) : Stmt := nthS (bodyOf w 21) 1
noncomputable def giCode (w : World) (L it : Addr) : Code := match giFor w with | .For t _ b o _ => .forLoop t (.ref it) b o (envAt w 21 L) | _ => .block [] (envAt w 21 L)
noncomputable def giWhile (w : World) : Stmt := nthS (inner (nthS (inner (giFor w)) 1)) 1
noncomputable def giWCode (w : World) (L : Addr) : Code := match giWhile w with | .While t b o _ => .whileLoop t b o (envAt w 21 L) | _ => .block [] (envAt w 21 L)
section
variable {w : World} {mg mb : Str → Option Value} {gc : Heap} {L : Addr} {D Ch : List Addr} {A : Around} {row : List Int} {N B : Nat} {R : GenEnd}
theorem Cx.later {m : Str → Option Value} {own : List (Addr × Obj)} {h h' : Heap} (C : Cx w mg mb gc L D m own h) (hCh : ∀ b ∈ Ch, b ∈ D) (hL : L ∉ Ch) (ho : ∀ p ∈ own, p.1 ∉ Ch) (hk : ∀ b o, b ∉ Ch → h.get? b = some o → h'.get? b = some o) : Cx w mg mb gc L D m own h' := by
  obtain ⟨oL, es, ep, hoL, r⟩ := C.ns
  refine C.of ⟨⟨oL, es, ep, hk _ _ hL hoL, r⟩, fun b o e => hk b o (fun q => ?_) (C.fr.keep b o e), C.fr.above⟩ fun p hp => ⟨hk _ _ (ho p hp) (C.nw p hp).1, (C.nw p hp).2⟩
  rw [hideAll_none _ (hCh b q)] at e; cases e
theorem s_locS {E : Value → Shared → Prop} {s : Shared} {g : Heap} {m : Str → Option Value} {own : List (Addr × Obj)} {qn : Str} {sc : Scope} {f : Addr} {cd : Value} {x : Str} {v : Value} {Q : Unit → Shared → Prop} (C : Cx w mg mb g L D m own s.heap) (h : ∀ h', Heap.SameBut L s.heap h' → Cx w mg mb g L D (fun y => if y = x then some v else m y) own h' → Q () { s with heap := h', toks := s.toks + 1 })
    (hk : sc.kind = .function := by rfl) (hl : (envOf qn sc L f cd).kindOf x = some .local := by rfl) : wpAny (model pg w) A (storeName (envOf qn sc L f cd) x v) Q E s :=
  wpAny_storeName_local hl C.ns (fun h' hn hs => h h' hs (C.st hn hs)) (by show (sc.kind == .class || (sc.kind == .module && L != mainGlobals)) = false; rw [hk]; rfl)
theorem as_locS {E : Value → Shared → Prop} {s : Shared} {g : Heap} {m : Str → Option Value} {own : List (Addr × Obj)} {qn : Str} {sc : Scope} {f : Addr} {cd : Value} {x : Str} {pos : Pos} {v : Value} {Q : Unit → Shared → Prop} (C : Cx w mg mb g L D m own s.heap) (h : ∀ h', Heap.SameBut L s.heap h' → Cx w mg mb g L D (fun y => if y = x then some v else m y) own h' → Q () { s with heap := h', toks := s.toks + 1 })
    (hk : sc.kind = .function := by rfl) (hl : (envOf qn sc L f cd).kindOf x = some .local := by rfl) : wpAny (model pg w) A (assign (.Name x pos) (envOf qn sc L f cd) v) Q E s := by
  show wpAny _ _ (standAt pos >>= fun _ => bindName (envOf qn sc L f cd) x v) _ _ _
  exact wpAny_bind (wpAny_standAt (wpAny_bindName (s_locS C h hk hl)))
theorem gi_while {fs : List Frame} (hfs : splitAtGen fs = none) (hfg : fs.any Frame.guarded = false) (hCh : ∀ b ∈ Ch, b ∈ D) (hL : L ∉ Ch) {k : Int} {t : Tok} : ∀ (n : Nat) (s₀ s : Shared) (m : Str → Option Value),
      (∀ j, N - 1 - n ≤ j → gi none row j = .item k) → Cx w mg mb gc L D m [] s.heap → m "last_interval" = some (.int k t) → giOk B L s₀ s →
      Seg (model pg w) A R (giY N B L Ch row) (n + 1) s₀ (giWCode w L) ((model pg w).den (giWCode w L)) fs s := by
  intro n
  induction n with
  | zero =>
    intro s₀ s m hg C hm hok
    show Seg _ _ _ _ _ _ (Code.whileLoop _ _ _ (envOf _ _ _ _ _)) _ _ _
    refine seg_whileLoop (wpAny_isTrue_value (wpAny_Constant_bool (wpAny_truthy_bool ?_)))
    rw [if_pos rfl]
    refine seg_execs_cons (seg_Expr_Yield hfs rfl hfg (n_loc C hm fun kap hkap => ?_))
    refine ⟨⟨k, t, rfl, hg _ (Nat.le_refl _)⟩, hok, fun h => absurd h (by decide)⟩
  | succ n ih =>
    intro s₀ s m hg C hm hok
    show Seg _ _ _ _ _ _ (Code.whileLoop _ _ _ (envOf _ _ _ _ _)) _ _ _
    refine seg_whileLoop (wpAny_isTrue_value (wpAny_Constant_bool (wpAny_truthy_bool ?_)))
    rw [if_pos rfl]
    refine seg_execs_cons (seg_Expr_Yield hfs rfl hfg (n_loc C hm fun kap hkap => ?_))
    refine ⟨⟨k, t, rfl, hg _ (Nat.le_refl _)⟩, hok, fun _ s'' hk => hkap _ s'' ?_⟩
    refine seg_execs_nil (seg_again (by rfl) ?_)
    exact ih s'' s'' m (fun j hj => hg j (by exact ar150 hj)) (C.later hCh hL (fun _ q => nomatch q) hk) hm ⟨⟨_, _, rfl⟩, fun b o e _ _ => e⟩
theorem seg_If {Y : Protocol} {n : Nat} {s₀ s : Shared} {c : Code} {fs : List Frame} {env : Env} {K : Flow → Sem Fin} {H : Value → Sem Fin} {gd : Bool → Bool} {lv : List Value → List Value} {test : Expr} {body orelse : List Stmt} {pos : Pos}
    (h : wpAny (model pg w) (A.over c fs) (isTrue test env (eval test env)) (fun b s' => if b = true then Seg (model pg w) A R Y n s₀ c ((execs body env).wrap K H gd lv) fs s' else Seg (model pg w) A R Y n s₀ c ((execs orelse env).wrap K H gd lv) fs s') (fun x s' => Seg (model pg w) A R Y n s₀ c (H x) fs s') s) :
    Seg (model pg w) A R Y n s₀ c ((exec (.If test body orelse pos) env).wrap K H gd lv) fs s := by
  rw [arm_exec_If, Sem.bind_eq_wrap', Sem.wrap_wrap]
  refine seg_wrap (wpAny_standAt ?_)
  rw [Sem.bind_eq_wrap', Sem.wrap_wrap]
  refine seg_wrap (wpAny_mono h (fun b s' hb => ?_) fun _ _ q => q)
  cases b with
  | true => exact hb
  | false => exact hb
theorem gi_loop {ra it : Addr} {rv : List Value} {rn : Nat} {outer : List Env} {k : Result → Sem Fin} {l : List Value} {p : Pos} (hh : A.handled = none) (hCh : ∀ b ∈ Ch, b ∈ D) (hL : L ∉ Ch) (hitC : it ∉ Ch) (hit : B ≤ it)
    (hra : gc.get? ra = some (listOf rv.toArray rn)) (hraD : ra ∉ D) (hrow : IntsAre rv row)
    (hk1 : k (.ok .next) = .pure (.done (.ret .none))) (hk2 : k (.ok (.ret .none)) = .pure (.done (.ret .none))) (hA : A.frames = some outer) (hLo : L ∉ frs outer)
    (hk3 : ∀ n s₀ e s, wpAny (model pg w) (A.over (.func (bodyOf w 21) (envAt w 21 L)) []) (do
        if (← field (.ref e) 1) == Value.none then unsupported "frame.own-activation:exception-without-traceback"
        setFlight (.ref e) (envAt w 21 L).frame) (fun _ s' => wpAny (model pg w) (A.over (.func (bodyOf w 21) (envAt w 21 L)) []) (leaving (envAt w 21 L) (.ref e)) (fun _ s'' => giR N B L outer row n s₀ (.error (.ref e)) s'') (fun _ _ => False) s') (fun _ _ => False) s →
      Seg (model pg w) A (giR N B L outer row) (giY N B L Ch row) n s₀ (.func (bodyOf w 21) (envAt w 21 L)) (k (.error (.ref e))) [] s) :
    ∀ (rs : List Int) (i n : Nat) (last : Option Int) (s₀ s : Shared) (m : Str → Option Value) (oi : Obj), row.drop i = rs → Cx w mg mb gc L D m [(it, oi)] s.heap → oi.cls = .type "list_iterator" → oi.data = .fields #[.ref ra, .int (i : Nat) 0] →
      (match last with | none => m "last_interval" = some .none | some x => ∃ t, m "last_interval" = some (.int x t)) → n < N → (∀ j, gi none row (N - (n + 1) + j) = gi last rs j) → giOk B L s₀ s → (last = none → Fms s₀.heap outer ∧ s₀.heap.objs.size ≤ B) →
      Seg (model pg w) A (giR N B L outer row) (giY N B L Ch row) (n + 1) s₀ (giCode w L it) ((model pg w).den (giCode w L it)) [.ret k none false l (.func (bodyOf w 21) (envAt w 21 L)) p []] s := by
  intro rs
  induction rs with
  | nil =>
    intro i n last s₀ s m oi hd C hc hdat hlast hn hg hok hfirst
    show Seg _ _ _ _ _ _ (Code.forLoop _ _ _ _ (envOf _ _ _ _ _)) _ _ _
    have hv : rv[i]? = none := by
      have := List.drop_eq_nil_iff.mp hd
      rw [List.getElem?_eq_none_iff, hrow.length]; exact this
    refine seg_forLoop (wpAny_pyNext_list_end hh ⟨oi, C.get (.head _), hc, hdat⟩ (isList_of (C.keep hra hraD)) (by simpa using hv) fun h1 ext => ?_)
    refine seg_again (by rfl) (seg_block_nil (seg_leaf (.ok .next) ?_))
    rw [hk1]
    refine seg_end (.ok (.ret .none)) (.inl ⟨rfl, ?_, ?_⟩)
    · have := hg 0; simpa [gi] using this
    · obtain ⟨⟨h', tk', rfl⟩, h2⟩ := hok
      exact ⟨⟨_, _, rfl⟩, fun b o e hb hbL => ext b o (Nat.ne_of_lt (Nat.lt_of_lt_of_le hb hit)) (h2 b o e hb hbL)⟩
  | cons r rs ih =>
    intro i n last s₀ s m oi hd C hc hdat hlast hn hg hok hfirst
    have hi : row[i]? = some r := by rw [← Nat.add_zero i, ← List.getElem?_drop, hd]; rfl
    have hd' : row.drop (i + 1) = rs := by rw [← List.drop_drop, hd]; rfl
    have hil := (List.getElem?_eq_some_iff.mp hi).1
    obtain ⟨v, hv⟩ : ∃ v, rv[i]? = some v := ⟨_, List.getElem?_eq_getElem (by rw [hrow.length]; exact hil)⟩
    obtain ⟨r', tr, hr', rfl⟩ := ia_get hrow hv
    have : r' = r := Option.some.inj (hr'.symm.trans hi)
    subst this
    show Seg _ _ _ _ _ _ (Code.forLoop _ _ _ _ (envOf _ _ _ _ _)) _ _ _
    refine seg_forLoop (wpAny_pyNext_list_item ⟨oi, C.get (.head _), hc, hdat⟩ (isList_of (C.keep hra hraD)) (by simpa using hv) fun h1 hit1 sb => ?_)
    obtain ⟨oi1, ho1, hc1, hd1⟩ := hit1
    have C1 := C.chg (.head _) sb ho1 (Upd.here Upd.nil)
    refine as_locS C1 fun h2 sb2 C2 => ?_
    have ok2 : ∀ tk, giOk B L s₀ { s with heap := h2, toks := tk } := fun tk => by
      obtain ⟨⟨h', tk', rfl⟩, h2'⟩ := hok
      refine ⟨⟨_, _, rfl⟩, fun b o e hb hbL => ?_⟩
      exact (sb2.2 b hbL).trans ((sb.2 b (Nat.ne_of_lt (Nat.lt_of_lt_of_le hb hit))).trans (h2' b o e hb hbL))
    refine seg_execs_cons (seg_If (wpAny_isTrue_Compare1 (n_loc C2 rfl (n_glob C2 (by with_unfolding_all rfl) (PyProof.Rows.eq_int (wpAny_truthy_bool ?_))))))
    by_cases h127 : r' = 127
    · rw [if_pos (by simp [h127])]
      refine seg_execs_cons (seg_wrap (wpAny_Return_none ?_))
      refine seg_leaf (.ok (.ret .none)) ?_
      rw [hk2]
      refine seg_end (.ok (.ret .none)) (.inl ⟨rfl, ?_, ok2 _⟩)
      have := hg 0; simpa [gi, h127] using this
    rw [if_neg (by simp [h127])]
    refine seg_execs_nil ?_
    refine seg_execs_cons (seg_If (wpAny_isTrue_Compare1 (n_loc C2 rfl (wpAny_Constant_int (PyProof.Rows.eq_int (wpAny_truthy_bool ?_))))))
    by_cases h0 : r' = 0
    · rw [if_pos (by simp [h0])]
      subst h0
      cases last with
      | some xl =>
        obtain ⟨tl, hlast⟩ := hlast
        refine seg_execs_cons (seg_If (wpAny_isTrue_Compare1 (n_loc C2 hlast (wpAny_Constant_none (is_none (wpAny_truthy_bool ?_))))))
        rw [if_neg (by simp)]
        refine seg_execs_nil (seg_execs_cons (seg_While fun p1 => ?_))
        refine gi_while rfl rfl hCh hL n s₀ _ _ (fun j hj => ?_) (C2.sub fun _ q => nomatch q) hlast (ok2 _)
        have := hg (j - (N - (n + 1)))
        rw [show N - (n + 1) + (j - (N - (n + 1))) = j by exact ar151 hj] at this
        rw [this, gi_zero]
      | none =>
        refine seg_execs_cons (seg_If (wpAny_isTrue_Compare1 (n_loc C2 hlast (wpAny_Constant_none (is_none (wpAny_truthy_bool ?_))))))
        rw [if_pos (by rfl)]
        refine seg_execs_cons (seg_wrap (wpAny_Raise_call PySem.F.excCall_ValueError PySem.F.excRaise_ValueError hh rfl (n_built (v := .type "ValueError") C2 (by with_unfolding_all rfl) (by decide +kernel) (by decide) ⟨rfl, ?_⟩)))
        refine evalArgs_plain (wpAny_items_cons (wpAny_Constant_str (wpAny_items_nil ⟨rfl, by show 1 ≤ sizeLine; decide, fun h3 e hm => ?_⟩)))
        obtain ⟨F0, hB0⟩ := hfirst rfl
        obtain ⟨ta, hex, _, _⟩ := hm.there
        have keep3 : ∀ b o, s₀.heap.get? b = some o → b ≠ L → h3.get? b = some o := fun b o e hb => hm.keeps b o ((ok2 0).2 b o e (Nat.lt_of_lt_of_le (Heap.lt_size e) hB0) hb)
        let base := hideAll s₀.heap (L :: frs outer)
        have stays : base.StaysIn h3 := fun b o e => by
          have hb : b ∉ L :: frs outer := fun q => by rw [show base.get? b = none from hideAll_none _ q] at e; cases e
          exact keep3 b o (of_hideAll _ e) fun q => hb (q ▸ .head _)
        obtain ⟨oL, esL, epL, hoL, hdL, _⟩ := C2.ns
        have FF : h3.FunFrames base (envAt w 21 L :: outer) := by
          refine ⟨(fun q => by have e : (fdOf w 21).scope.kind = .function := rfl; have q : (fdOf w 21).scope.kind = .module := q; rw [e] at q; cases q), ⟨L, oL, rfl, hideAll_none _ (.head _), hm.keeps _ _ hoL, fun vs q => by rw [hdL] at q; cases q⟩, ?_⟩
          refine Fms.fun (fun en hen => ?_) fun b hb => hideAll_none _ (.tail _ hb)
          obtain ⟨hk', Le, oe, hf, ho, hd⟩ := F0 en hen
          exact ⟨hk', Le, oe, hf, keep3 _ _ ho (fun q => hLo (List.mem_filterMap.mpr ⟨en, hen, by rw [hf, q]⟩)), hd⟩
        have hen : base.get? e = none := by
          cases q : base.get? e with
          | none => rfl
          | some o =>
            have z := keep3 e o (of_hideAll _ q) (fun z => by rw [z, show base.get? L = none from hideAll_none _ (.head _)] at q; cases q)
            have z2 := (ok2 0).2 e o (of_hideAll _ q) (Nat.lt_of_lt_of_le (Heap.lt_size (of_hideAll _ q)) hB0) (fun z => by rw [z, show base.get? L = none from hideAll_none _ (.head _)] at q; cases q)
            exact absurd (hm.new.symm.trans z2) (by simp)
        refine seg_wrap (wpAny_bind (note_first (env := envAt w 21 L) (outer := outer) (base := base) (L := L) (a0 := .ref ta) (by unfold Around.over; dsimp only; rw [hA]; rfl) FF rfl hex stays hen rfl rfl rfl fun h4 held4 up4 => wpAny_theTreesLotGoes ?_))
        refine seg_leaf (.error (.ref e)) (hk3 _ _ _ _ ?_)
        refine flight_again (l := envAt w 21 L :: outer) (base := base) (cls := .type "ValueError") (a0 := .ref ta) rfl held4 fun h5 held5 up5 => ?_
        unfold leaving
        refine wpAny_bind (wpAny_noteFrame_againW rfl held5.2.2.2 (wpAny_landsW held5 fun h6 fl6 up6 => ?_))
        refine .inr ⟨e, rfl, ?_, ?_, ⟨.ref ta, fl6.1, fl6.2.1, fl6.2.2.1.2.2, fl6.2.2.2⟩, fun b o eb hbL hnf => ?_⟩
        · have := hg 0; simpa [gi] using this
        · obtain ⟨⟨h', tk', rfl⟩, _⟩ := hok
          exact ⟨_, _, rfl⟩
        · obtain ⟨sl, e4⟩ := up4 b o (keep3 b o eb hbL) hnf
          obtain ⟨sl5, e5⟩ := up5 b _ e4 hnf
          obtain ⟨sl6, e6⟩ := up6 b _ e5 hnf
          exact ⟨sl6, e6⟩
    rw [if_neg (by simp [h0])]
    refine seg_execs_nil ?_
    refine seg_execs_cons (seg_Expr_Yield rfl rfl rfl (n_loc C2 rfl fun kap hkap => ?_))
    refine ⟨⟨r', tr, rfl, ?_⟩, ok2 _, fun hn0 s'' hk => hkap _ s'' ?_⟩
    · have := hg 0
      rw [show N - 1 - n = N - (n + 1) + 0 by exact ar152, this]
      simp [gi, h127, h0]
    have C3 := C2.later hCh hL (fun p hp => by rcases List.mem_singleton.mp hp with rfl; exact hitC) hk
    refine seg_execs_cons (seg_wrap (wpAny_Assign_Name (n_loc C3 rfl (s_locS C3 fun h4 sb4 C4 => ?_))))
    refine seg_execs_nil (seg_again (by rfl) ?_)
    obtain ⟨n', rfl⟩ : ∃ n', n = n' + 1 := ⟨n - 1, by exact ar153 hn0⟩
    refine ih (i + 1) n' (some r') s'' _ _ oi1 hd' C4 hc1 hd1 ⟨tr, rfl⟩ (by exact ar154 hn) (fun j => ?_) ?_ (fun q => nomatch q)
    · have := hg (j + 1)
      rw [show N - (n' + 1) + j = N - (n' + 1 + 1) + (j + 1) by exact ar155 hn, this]
      simp [gi, h127, h0]
    · exact ⟨⟨_, _, rfl⟩, fun b o e _ hbL => (sb4.2 b hbL).trans e⟩
end
end Mine

namespace Mine
section
variable {w : World} {mg mb : Str → Option Value} {gc : Heap} {L : Addr} {D Ch : List Addr} {A : Around} {row : List Int} {N : Nat} {outer : List Env} {m : Str → Option Value}
theorem gi_start {ra : Addr} {rv : List Value} {rn : Nat} {s₀ : Shared} (hh : A.handled = none) (hCh : ∀ b ∈ Ch, b ∈ D) (hL : L ∉ Ch) (hChs : ∀ b ∈ Ch, b < s₀.heap.objs.size)
    (hra : gc.get? ra = some (listOf rv.toArray rn)) (hraD : ra ∉ D) (hrow : IntsAre rv row) (hA : A.frames = some outer) (hLo : L ∉ frs outer) (F0 : Fms s₀.heap outer)
    (C : Cx w mg mb gc L D m [] s₀.heap) (hm : m "grouping" = some (.ref ra)) (hN : 0 < N) :
    Seg (model pg w) A (giR N s₀.heap.objs.size L outer row) (giY N s₀.heap.objs.size L Ch row) N s₀ (.func (bodyOf w 21) (envAt w 21 L)) ((model pg w).den (.func (bodyOf w 21) (envAt w 21 L))) [] s₀ := by
  obtain ⟨n, rfl⟩ : ∃ n, N = n + 1 := ⟨N - 1, by omega⟩
  show Seg _ _ _ _ _ _ (Code.func (_ :: _ :: []) (envOf _ _ _ _ _)) _ _ _
  refine seg_func (seg_execs_cons (seg_wrap (wpAny_Assign_Name (wpAny_Constant_none (s_locS C fun h1 sb1 C1 => ?_)))))
  refine seg_execs_cons (seg_For (n_loc C1 hm (wpAny_pyIter_list (isList_of (C1.keep hra hraD)) fun p => ?_)))
  have C2 := C1.push { cls := .type "list_iterator", data := .fields #[.ref ra, .int 0 0] }
  have hsz : h1.objs.size = s₀.heap.objs.size := sb1.1
  refine gi_loop (it := h1.objs.size) hh hCh hL (fun q => absurd (hChs _ q) (by rw [hsz]; exact Nat.lt_irrefl _)) (Nat.le_of_eq hsz.symm) hra hraD hrow rfl rfl hA hLo (fun n' s' e s hw => ?_) row 0 n none s₀ _ _ _ rfl C2 rfl rfl rfl (by omega) (fun j => by rw [Nat.sub_self, Nat.zero_add]) ?_ (fun _ => ⟨F0, Nat.le_refl _⟩)
  · show Seg _ _ _ _ _ _ _ (((Sem.raise (Value.ref e) : Sem Flow).onRaise fun (x : Value) => do
        if (← field x 1) == Value.none then unsupported "frame.own-activation:exception-without-traceback"
        setFlight x (envAt w 21 L).frame).wrap _ _ _ _) _ _
    rw [Sem.onRaise_eq_wrap]
    show Seg _ _ _ _ _ _ _ (Sem.wrap _ _ _ _ (Sem.bind _ _)) _ _
    rw [Sem.bind_eq_wrap, Sem.wrap_wrap]
    refine seg_wrap (wpAny_mono hw (fun _ s1 h1 => ?_) fun _ _ q => q.elim)
    show Seg _ _ _ _ _ _ _ ((leaving (envAt w 21 L) (.ref e)).wrap (fun _ => .raise (.ref e)) .raise id id) _ _
    refine seg_wrap (wpAny_mono h1 (fun _ s2 h2 => ?_) fun _ _ q => q.elim)
    exact seg_end (.error (.ref e)) h2
  · exact ⟨⟨_, _, rfl⟩, fun b o e hb hbL => Heap.get?_push_of_some _ ((sb1.2 b hbL).trans e)⟩
end
end Mine

namespace Mine
theorem sub_ve_stop : isSubtype (.type "ValueError") (.type "StopIteration") = pure false := by rw [isSubtype_type]; kernel_rfl
section
variable {w : World} {A : Around} {s : Shared} {E : Value → Shared → Prop}
theorem gen_left {a e : Addr} {g : Nat} {Q : Fin → Shared → Prop} (hg : s.heap.IsGen a g) (he : s.TypeIs (.ref e) "ValueError") (h : E (.ref e) s) :
    wpAny (model pg w) A (Builtin.Generator.genLeft (.ref a) (.ref e) : Sem Fin) Q E s := by
  obtain ⟨o, nm, qn, ho, hc, hd, hs⟩ := hg
  unfold Builtin.Generator.genLeft
  refine wpAny_bind ?_
  show wpAny _ _ (load a >>= _) _ _ _
  refine wpAny_bind (wpAny_load ho (wpAny_pure ?_))
  refine wpAny_bind (wpAny_isInstance he sub_ve_stop ?_)
  rw [hd]
  have : (o.cls == Value.type "generator" && (match (Data.fields #[Value.int g 0, nm, qn]) with | .fields vs => vs[3]? == some (.bool true) | _ => false)) = false := by simp
  simp only [Bool.and_false, Bool.false_eq_true, if_false]
  show wpAny _ _ (Builtin.Generator.genEscaped (.ref e)) _ _ _
  unfold Builtin.Generator.genEscaped
  refine wpAny_bind (wpAny_isInstance he sub_ve_stop ?_)
  simp only [Bool.not_false, if_true]
  exact wpAny_bind (wpAny_throw h)
/-- a for loop without else, its continuations by names, the exceptions' too -/
theorem forLE {R : Result → Shared → Prop} {target : Expr} {it : Value} {body : List Stmt} {env : Env} (I : Nat → Shared → Prop)
    (turn : ∀ n s (J : Flow → Shared → Prop) (F : Shared → Prop) E', I n s → (∀ m s', m < n → I m s' → J .next s' ∧ J .cont s') → (∀ s', R (.ok .next) s' → F s' ∧ J .brk s') → (∀ v s', R (.ok (.ret v)) s' → J (.ret v) s') → (∀ e s', notedBy (model pg w) A env (fun e s' => R (.error e) s') e s' → E' e s') →
      wpAny (model pg w) A (pyNext it) (fun r s₁ => match r with
        | none => F s₁
        | some v => wpAny (model pg w) A (assign target env v) (fun _ s₂ => wpAny (model pg w) A (execs body env) J E' s₂) E' s₁) E' s)
    (n : Nat) (h : I n s) (ht : ∀ v, letOwnedTupleGo target it v = pure () := by intro _; rfl) : codeAny (model pg w) A (.forLoop target it body [] env) R s := by
  refine codeAny_forLoop I (fun n s hI => ?_) n h ht
  refine wpAny_mono (turn n s (fun f s₃ => match f with | .next | .cont => ∃ m, m < n ∧ I m s₃ | .brk => R (.ok .next) s₃ | .ret v => R (.ok (.ret v)) s₃) (fun s₁ => R (.ok .next) s₁) (notedBy (model pg w) A env fun e s' => R (.error e) s') hI (fun m s' hm hi => ⟨⟨m, hm, hi⟩, ⟨m, hm, hi⟩⟩) (fun s' h => ⟨h, h⟩) (fun v s' h => h) (fun e s' h => h)) (fun r s₁ h₁ => ?_) fun _ _ q => q
  cases r with
  | none => exact wpAny_execs_nil h₁
  | some v => exact h₁
end
end Mine

namespace Mine
def toldGo (row : List Int) : Nat → Nat → List Int → List Int
  | 0, _, cuts => cuts
  | f + 1, j, cuts => match gi none row j with
    | .item k => toldGo row f (j + 1) (cuts ++ [cuts.getD (cuts.length - 1) 0 + k])
    | _ => cuts
theorem gi_noerr : ∀ (rs : List Int) (l : Int) (j : Nat), gi (some l) rs j ≠ .err
  | [], l, j => by simp [gi]
  | r :: rs, l, j => by
    by_cases h1 : r = 127
    · simp [gi, h1]
    · by_cases h2 : r = 0
      · simp [gi, h2]
      · cases j with
        | zero => simp [gi, h1, h2]
        | succ j => simpa [gi, h1, h2] using gi_noerr rs r j
theorem gi_err {row : List Int} {i : Nat} (h : gi none row i = .err) : gi none row 0 = .err := by
  cases row with
  | nil => simp [gi] at h
  | cons r rs =>
    by_cases h1 : r = 127
    · simp [gi, h1] at h
    · by_cases h2 : r = 0
      · simp [gi, h2]
      · cases i with
        | zero => exact h
        | succ j => exact absurd (by simpa [gi, h1, h2] using h) (gi_noerr rs r j)
def toldF (row : List Int) : Option (List Int) := match gi none row 0 with | .err => none | _ => some (toldGo row 12 0 [0])
section
variable {w : World} {mg mb : Str → Option Value} {A : Around} {s : Shared} {outer : List Env} {fr : List (Addr × Obj)} {row : List Int}
theorem gset2 {gn : Array GenState} {k : Nat} {x y z : GenState} (h : gn[k]? = some x) : ((gn.setIfInBounds k y).setIfInBounds k z)[k]? = some z := by
  have := (Array.getElem?_eq_some_iff.mp h).1
  simp [this]
structure ToldI (w : World) (mg mb : Str → Option Value) (s : Shared) (A' : Around) (L : Addr) (fr : List (Addr × Obj)) (a ca B Lg : Addr) (outer : List Env) (row : List Int) (j : Nat) (s' : Shared)
    (i : Nat) (h' : Heap) (tk : Nat) (gn : Array GenState) (m' : Str → Option Value) (cv : List Value) (n : Nat) (cs : List Int) (oa : Obj) (gst : GenState) : Prop where
  hs : s' = { s with heap := h', toks := tk, gens := gn }
  hj : j + i = 12
  hi12 : i < 12
  hb : AllBare s.gens → AllBare gn
  C : Cx w mg mb s.heap L (fr.map (·.1)) m' ((a, oa) :: (ca, listOf cv.toArray n) :: fr) h'
  hgen : h'.IsGen a s.gens.size
  hcv : IntsAre cv cs
  hcl : cs.length = i + 1
  htg : toldGo row (12 - i) i cs = toldGo row 12 0 [0]
  hmc : m' "cuts" = some (.ref ca)
  hgs : gn[s.gens.size]? = some gst
  hfirst : gi none row 0 = .err → i = 0
  hgo : ∀ s'' : Shared, s''.heap = h' → gst.Goes (model pg w) A' (giR 12 B Lg outer row) (giY 12 B Lg [ca, L] row) (12 - i) (.send .none) s''
theorem told_spec {R : Result → Shared → Prop} {ra : Addr} {rv : List Value} {rn : Nat} (G : Gd w mg mb s.heap) (hh : A.handled = none) (hroom : A.depth + 10 < recursionLimit) (hA : A.frames = some outer) (O : Ofs outer fr) (hfr : ∀ p ∈ fr, s.heap.get? p.1 = some p.2 ∧ 181 ≤ p.1) (hfd : ∀ p ∈ fr, ∀ xs n, p.2.data ≠ .seq xs n)
    (hra : s.heap.get? ra = some (listOf rv.toArray rn)) (hi : IntsAre rv row) (hlen : row.length ≤ 10) (hbig : 181 ≤ s.heap.objs.size)
    (h : ∀ h' v tk fr' gn, Marked fr fr' → (∀ p ∈ fr', h'.get? p.1 = some p.2) → (∀ b o, s.heap.get? b = some o → b ∉ fr.map (·.1) → h'.get? b = some o) → Opt h' v (toldF row) → (∀ a, v = .ref a → s.heap.get? a = none) → (AllBare s.gens → AllBare gn) → R (.ok (.ret v)) { s with heap := h', toks := tk, gens := gn }) :
    codeAny (model pg w) A (.call (.ref 153) ⟨[.ref ra], []⟩) R s := by
  refine enter (binds := [("row", .ref ra)]) G (by exact ar65 hroom) rfl (by with_unfolding_all rfl) (BindsTo.of_eq rfl) rfl rfl rfl rfl rfl ?_
  intro h₁ hns hk J₀ E₀ hJ₀ hN₀
  have C := Cx.start G hns hk fr hfr
  have Cst := C
  have raD : ra ∉ fr.map (·.1) := fun q => by
    obtain ⟨p, hp, e⟩ := List.mem_map.mp q
    have := (hfr p hp).1
    rw [e, hra] at this
    exact hfd p hp rv.toArray rn (by rw [← Option.some.inj this])
  refine wpAny_execs_cons (wpAny_mono (Q := fun fl s' => fl = .next ∧ ∃ h' tk m' t0, s' = { s with heap := h', toks := tk } ∧ Cx w mg mb s.heap s.heap.objs.size (fr.map (·.1)) m' ((h₁.objs.size, listOf #[.int 0 t0] 0) :: fr) h' ∧ m' "row" = some (.ref ra) ∧ m' "cuts" = some (.ref h₁.objs.size)) ?_ (fun fl s' hq => ?_) fun _ _ q => q)
  · refine absQE fun Q₁ E₁ hQ₁ => ?_
    refine wpAny_Assign_Name (wpAny_List (wpAny_items_cons (wpAny_Constant_int (wpAny_items_nil ⟨by show 1 ≤ sizeLine; decide, ?_⟩))))
    exact s_loc (C.push _) fun h2 C2 => hQ₁ _ _ ⟨rfl, h2, _, _, _, rfl, C2, rfl, rfl⟩
  obtain ⟨rfl, h2, tk2, m2, t0, rfl, C2, hm1, hm2⟩ := hq
  refine wpAny_execs_cons (wpAny_Try_except (wpAny_execs_cons (wpAny_For (Call_ (n_glob (v := .ref 21) C2 (by with_unfolding_all rfl) ?_)))))
  refine callWith_K C2.G.X (by with_unfolding_all rfl) (wpAny_items_cons (n_loc C2 hm1 (wpAny_items_nil ⟨C2.G.X, ?_⟩)))
  have room : ∀ k, k < 10 → (A.deeper (envAt w 153 s.heap.objs.size)).depth + k < recursionLimit := fun k hk => by show A.depth + 1 + k < _; exact ar156 hroom hk
  refine wpAny_call (codeAny_call_generator (room 0 (by decide)) (C2.G.X 21 _ rfl) rfl rfl rfl rfl (codeRec_of C2.G.X (by with_unfolding_all rfl)) ?_)
  refine wpAny_of_eq (a := ([("grouping", Value.ref ra)] : List (Str × Value))) rfl ?_
  refine wpAny_newFunctionEnv (fun y hy => ?_) (locs rfl) (fun h₀ hns₀ hsb₀ => ⟨Heap.NoLimit.fresh C2.G.lim _ hsb₀, ?_⟩) rfl
  · have : ((fdOf w 21).scope.names.all fun x => x.2 != .cell) = true := rfl
    have := List.all_eq_true.mp this y hy
    simpa using this
  have hk₀ : ∀ b o, h2.get? b = some o → h₀.get? b = some o := fun b o e => hsb₀.extBut b o (Nat.ne_of_lt (Heap.lt_size e)) (Heap.get?_push_of_some _ e)
  have Cg : Cx w mg mb h2 h2.objs.size [] _ [] h₀ := Cx.start0 C2.G hns₀ hk₀
  let ca := h₁.objs.size
  let L := s.heap.objs.size
  let a := h₀.objs.size
  have hG : ∀ o : Obj, ∃ oa : Obj, oa = o := fun o => ⟨o, rfl⟩
  refine wpAny_pyIter_gen (g := s.gens.size) ⟨_, _, _, (Cg.push _).get (.head _), rfl, rfl, rfl⟩ ?_
  let B := h₀.objs.size + 1
  let envT := envAt w 153 s.heap.objs.size
  let Lg := h2.objs.size
  have CT := fun o ho => (C2.call0 hk₀).push (o : Obj) ho
  have caL : ca ≠ L := C2.ne (.head _)
  have freshca : ∀ a, Value.ref ca = .ref a → s.heap.get? a = none := fun a e => by cases e; exact none_of_ge (Nat.le_of_lt Cst.ns.lt)
  refine forLE (fun j s' => ∃ i h' tk gn m' cv n cs oa gst, ToldI w mg mb s (A.deeper envT).in1 L fr a ca B Lg (envT :: outer) row j s' i h' tk gn m' cv n cs oa gst) ?_ 12 ?_
  · rintro j s' J F E₁ ⟨i, h', tk, gn, m', cv, n, cs, oa, gst, rfl, hj, hi12, hb, C, hgen, hcv, hcl, htg, hmc, hgs, hfirst, hgo⟩ hJ hF hV hEx
    have lb0 : h2.objs.size < h₀.objs.size := Cg.ns.lt
    have lts : ∀ b o, s.heap.get? b = some o → b < B ∧ b ≠ Lg := fun b o e => by
      have l1 := Heap.lt_size e
      have l2 : s.heap.objs.size < h2.objs.size := C2.ns.lt
      exact ⟨Nat.lt_succ_of_lt (Nat.lt_trans (Nat.lt_trans l1 l2) lb0), Nat.ne_of_lt (Nat.lt_trans l1 l2)⟩
    have ltL : L < B ∧ L ≠ Lg := ⟨Nat.lt_succ_of_lt (Nat.lt_trans C2.ns.lt lb0), Nat.ne_of_lt C2.ns.lt⟩
    have lto : ∀ p ∈ (a, oa) :: (ca, listOf cv.toArray n) :: fr, p.1 < B ∧ p.1 ≠ Lg := fun p hp => by
      rcases List.mem_cons.mp hp with rfl | hp
      · exact ⟨Nat.lt_succ_self _, Nat.ne_of_gt lb0⟩
      · rcases List.mem_cons.mp hp with rfl | hp
        · exact ⟨Nat.lt_succ_of_lt (Nat.lt_trans (C2.lt (.head _)) lb0), Nat.ne_of_lt (C2.lt (.head _))⟩
        · exact lts _ _ (hfr p hp).1
    refine next_gen (A := A.deeper envT) hh C.G.lim (room 0 (by decide)) hgen hgs (hgo _ rfl) (fun v s₁ gs' hb' hv => ?_) (fun r s₁ hr => ?_)
    · obtain ⟨⟨k, t, rfl, hk'⟩, ⟨⟨h1', tk1, rfl⟩, keep⟩, hcont⟩ := hv
      have C1 : Cx w mg mb s.heap L (fr.map (·.1)) m' ((a, oa) :: (ca, listOf cv.toArray n) :: fr) h1' := by
        obtain ⟨oL, es, ep, hoL, r⟩ := C.ns
        refine C.of ⟨⟨oL, es, ep, keep _ _ hoL ltL.1 ltL.2, r⟩, fun b o e => ?_, C.fr.above⟩ fun p hp => ⟨keep _ _ (C.nw p hp).1 (lto p hp).1 (lto p hp).2, (C.nw p hp).2⟩
        have z := lts b o (of_hideAll _ e)
        exact keep _ _ (C.fr.keep b o e) z.1 z.2
      refine as_locS C1 fun h3 sb3 C3 => ?_
      refine wpAny_execs_cons (wpAny_Expr_any (MethodCall_ (n_loc C3 hmc (getMethod_list_append (C3.get (.tail _ (.head _))) rfl rfl ?_))) (by rfl) (by rfl))
      refine callWith_method1 (wpAny_items_cons (wpAny_BinOp (Subscript_ (n_loc C3 hmc (wpAny_UnaryOp (wpAny_Constant_int (PySem.P.neg_int ?_)))))))
      have hl3 := isList_of (C3.get (a := ca) (.tail _ (.head _)))
      have hcvl := hcv.length
      obtain ⟨tl, hat⟩ := ia_at hcv (i := cs.length - 1) (by exact ar157 hcl)
      refine tail_any (ops := [.ref ca, .int (-1) _]) hl3.typeIs slot_list_getitem.lookup (wpAny_getItem_list_neg hl3 (by decide) (by rw [List.size_toArray]; exact ar158 hcl hcvl) (by decide) (x := .int (cs.getD (cs.length - 1) 0) tl) (by rw [List.size_toArray, show ((-1 : Int) + (cv.length : Nat)).toNat = cs.length - 1 by exact ar43 hcvl]; simpa using hat) ?_) rfl
      refine n_loc C3 rfl (add_int (wpAny_items_nil (wpAny_list_append_plain ⟨_, C3.get (.tail _ (.head _))⟩ (fun h4 hl4 sb4 => ?_) (by rw [sizeLine_eq, List.size_toArray]; exact ar159 hi12 hcl hcvl))))
      obtain ⟨n4, hl4⟩ := hl4
      generalize hkv : cs.getD (cs.length - 1) 0 + k = kv at hl4 ⊢
      generalize hyt : Shared.toks _ = ty at hl4
      rw [show (cv.toArray.push (Value.int kv ty)) = (cv ++ [Value.int kv ty]).toArray from by simp] at hl4
      have ane : a ≠ ca := Nat.ne_of_gt (Nat.lt_trans (C2.lt (.head _)) lb0)
      have frne : ∀ p ∈ fr, p.1 ≠ ca := fun p hp => Nat.ne_of_lt (Nat.lt_trans (Heap.lt_size (hfr p hp).1) Cst.ns.lt)
      have C4 := C3.chg (own' := (a, oa) :: (ca, listOf (cv ++ [Value.int kv ty]).toArray n4) :: fr) (.tail _ (.head _)) sb4 hl4 (Upd.other ane (.head _) (Upd.here (Upd.rest fun p hp => ⟨frne p hp, .tail _ (.tail _ hp)⟩)))
      have hcv4 : IntsAre (cv ++ [Value.int kv ty]) (cs ++ [kv]) := hcv.append (.cons _ _ .nil)
      refine wpAny_execs_cons (wpAny_If (wpAny_isTrue_Compare1 (Call_ (n_built (v := .builtin "len") C4 (by with_unfolding_all rfl) boot_len (by decide) ?_))))
      refine PyProof.Rows.callWith_builtin1 (wpAny_items_cons (n_loc C4 hmc (wpAny_items_nil ?_)))
      refine PyProof.Rows.len_list (isList_of (C4.get (.tail _ (.head _)))) (by rw [List.size_toArray, hcv4.length, List.length_append, List.length_singleton]; exact ar160 hi12 hcl) ?_
      refine wpAny_Constant_int (PyProof.Rows.eq_int (wpAny_truthy_bool ?_))
      have hstep : toldGo row (12 - i) i cs = toldGo row (12 - (i + 1)) (i + 1) (cs ++ [kv]) := by
        rw [show 12 - i = (12 - (i + 1)) + 1 by exact ar161 hi12]
        have : gi none row i = .item k := by rw [← hk']; congr 1; exact ar162 hi12
        simp only [toldGo, this, hkv]
      have lsz : ((cv ++ [Value.int kv ty]).toArray.size : Int) = i + 2 := by rw [List.size_toArray, List.length_append, List.length_singleton, hcvl, hcl]; exact ar163
      rw [lsz]
      by_cases h13 : i = 11
      · rw [if_pos (by simp [h13])]
        refine wpAny_execs_cons (wpAny_Break (hF _ ?_).2)
        refine wpAny_execs_nil (wpAny_execs_nil (wpAny_execs_cons (wpAny_Return_some (n_loc C4 hmc ?_))))
        refine hJ₀ _ _ (h h4 (.ref ca) _ fr _ (Marked.refl _) (fun p hp => C4.get (a := p.1) (o := p.2) (.tail _ (.tail _ hp))) (fun b o e q => C4.keep e q) ?_ freshca fun hs => ((hb hs).set _ rfl).set _ hb')
        have hne : toldF row = some (cs ++ [kv]) := by
          unfold toldF
          have e1 : toldGo row 12 0 [0] = cs ++ [kv] := by rw [← htg, hstep, h13]; rfl
          rw [e1]
          split
          · rename_i q; have := hfirst q; omega
          · rfl
        rw [hne]
        exact ⟨ca, _, n4, rfl, C4.get (.tail _ (.head _)), hcv4, by rw [List.length_append, hcl]; simp; exact ar164 h13⟩
      · rw [if_neg (by simp; exact ar165 h13)]
        refine wpAny_execs_nil (wpAny_execs_nil ?_)
        refine (hJ (j - 1) _ (by exact ar166 hj hi12) ⟨i + 1, h4, _, _, _, cv ++ [Value.int kv ty], n4, cs ++ [kv], oa, gs', rfl, by exact ar167 hj hi12, by exact ar168 hi12 h13, fun hs => ((hb hs).set _ rfl).set _ hb', C4, ?_, hcv4, by rw [List.length_append, hcl]; rfl, by rw [← hstep, htg], hmc, gset2 hgs, ?_, fun s'' hs => ?_⟩).1
        · obtain ⟨og, nm, qn, hog, r⟩ := hgen
          have : og = oa := Option.some.inj (hog.symm.trans (C.get (.head _)))
          subst this
          exact ⟨_, nm, qn, C4.get (.head _), r⟩
        · intro q
          have := hfirst q
          have hki : gi none row i = .item k := by rw [← hk']; congr 1; exact ar169 this
          rw [this, q] at hki; cases hki
        · have e12 : 12 - i = (12 - (i + 1)) + 1 := by exact ar161 hi12
          rw [e12] at hcont
          refine hcont (by exact ar170 hi12 h13) s'' fun b o hbn e => ?_
          simp only [List.mem_cons, List.not_mem_nil, or_false, not_or] at hbn
          rw [hs]
          exact (sb4.2 b hbn.1).trans ((sb3.2 b hbn.2).trans e)
    · rcases hr with ⟨rfl, hstop, ⟨⟨h1', tk1, rfl⟩, keep⟩⟩ | ⟨e, rfl, herr, hErr⟩
      · refine .inl ⟨rfl, fun h5 ext => ?_⟩
        have C1 : Cx w mg mb s.heap L (fr.map (·.1)) m' ((a, oa) :: (ca, listOf cv.toArray n) :: fr) h5 := by
          obtain ⟨oL, es, ep, hoL, r⟩ := C.ns
          refine C.of ⟨⟨oL, es, ep, ext _ _ (keep _ _ hoL ltL.1 ltL.2), r⟩, fun b o e => ?_, C.fr.above⟩ fun p hp => ⟨ext _ _ (keep _ _ (C.nw p hp).1 (lto p hp).1 (lto p hp).2), (C.nw p hp).2⟩
          have z := lts b o (of_hideAll _ e)
          exact ext _ _ (keep _ _ (C.fr.keep b o e) z.1 z.2)
        refine (hF _ (wpAny_execs_nil (wpAny_execs_nil (wpAny_execs_cons (wpAny_Return_some (n_loc C1 hmc ?_)))))).1
        have hs12 : gi none row i = .stop := by rw [← hstop]; congr 1; exact ar171 hi12
        have hne : toldF row = some cs := by
          unfold toldF
          have e1 : toldGo row 12 0 [0] = cs := by
            rw [← htg, show 12 - i = (12 - (i + 1)) + 1 by exact ar161 hi12]
            simp only [toldGo, hs12]
          rw [e1]
          split
          · rename_i q; have := hfirst q; rw [this, q] at hs12; cases hs12
          · rfl
        refine hJ₀ _ _ (h h5 (.ref ca) _ fr _ (Marked.refl _) (fun p hp => C1.get (a := p.1) (o := p.2) (.tail _ (.tail _ hp))) (fun b o e q => C1.keep e q) ?_ freshca fun hs => ((hb hs).set _ rfl).set _ rfl)
        rw [hne]
        exact ⟨ca, _, n, rfl, C1.get (.tail _ (.head _)), hcv, by exact ar172 hi12 hcl⟩
      · obtain ⟨⟨hE, tkE, rfl⟩, ⟨a0, fly⟩, up0⟩ := hErr
        have cOf : ∀ b ∈ frs (envT :: outer), b = L ∨ ∃ p ∈ fr, p.1 = b := fun b hb => by
          obtain ⟨en, hen, hf⟩ := List.mem_filterMap.mp hb
          rcases List.mem_cons.mp hen with rfl | hen
          · exact .inl (Option.some.inj hf).symm
          · exact .inr (O.frs (List.mem_filterMap.mpr ⟨en, hen, hf⟩))
        have sL : s.heap.objs.size < h2.objs.size := C2.ns.lt
        have aB : a ∉ Lg :: frs (envT :: outer) := fun q => by
          rcases List.mem_cons.mp q with q | q
          · exact Nat.ne_of_gt lb0 q
          · rcases cOf a q with q | ⟨p, hp, q⟩
            · exact Nat.ne_of_gt (Nat.lt_trans sL lb0) q
            · have l1 := Heap.lt_size (hfr p hp).1
              exact Nat.ne_of_lt (Nat.lt_trans (Nat.lt_trans l1 sL) lb0) q
        have hgE : Heap.IsGen hE a s.gens.size := by
          obtain ⟨og, nm, qn, hog, r⟩ := hgen
          exact ⟨og, nm, qn, fly.1 a og (hideAll_get _ hog aB), r⟩
        refine .inr ⟨.ref e, rfl, gen_left hgE fly.there ?_⟩
        refine wpAny_isInstance fly.there sub_ve_stop ⟨rfl, hEx _ _ ?_⟩
        refine wpAny_looks_onW (L := L) (outer := outer) (by show Option.map _ A.frames = _; rw [hA]; rfl) rfl fly fun h3 held3 up3 => ?_
        refine flight_again (l := envT :: outer) (L := L) rfl held3 fun h4 held4 up4 => ?_
        refine wpAny_noteFrame_againW rfl held4.2.2.2 (wpAny_landsW held4 fun h5 fly5 up5 => ?_)
        have gk : ∀ b o, s.heap.get? b = some o → b ∉ fr.map (·.1) → b ∉ Lg :: frs (envT :: outer) := fun b o e hb q => by
          rcases List.mem_cons.mp q with q | q
          · exact (lts b o e).2 q
          · rcases cOf b q with q | ⟨p, hp, q⟩
            · exact Nat.ne_of_lt (Heap.lt_size e) q
            · exact hb (q ▸ List.mem_map_of_mem hp)
        have G5 : Gd w mg mb h5 := G.keeps fun b o hb e => fly5.1 b o (hideAll_get _ (C.keep e fun q => by
            obtain ⟨p, hp, z⟩ := List.mem_map.mp q
            have := (hfr p hp).2
            rw [z] at this
            exact absurd this (Nat.not_le.mpr hb)) (gk b o e fun q => by
            obtain ⟨p, hp, z⟩ := List.mem_map.mp q
            have := (hfr p hp).2
            rw [z] at this
            exact absurd this (Nat.not_le.mpr hb)))
        refine wpAny_handleBy_builtin (X := "ValueError") (T := "ValueError") (b := true) (by rw [isSubtype_type]; kernel_rfl) (by rw [isSubtype_type]; kernel_rfl) (by rw [isSubtype_type]; kernel_rfl) (g_built (v := .type "ValueError") G5 (by with_unfolding_all rfl) (by decide +kernel) (by decide) ⟨rfl, fly5.there, ?_⟩)
        refine wpAny_setFlight_noneW fly5.1 fly5.2.2.1 fly5.2.2.2.at fun h6 k1 k2 k3 k4 => ?_
        refine wpAny_execs_cons (wpAny_Return_some (wpAny_Constant_none ?_))
        have up : ∀ b o, h'.get? b = some o → b ≠ Lg → (∀ vs, o.data ≠ .fields vs) → ∃ sl, h6.get? b = some { o with slots := sl } := fun b o eb hb hn => by
          obtain ⟨s1, e1⟩ := up0 b o eb hb hn
          obtain ⟨s2, e2⟩ := up3 b _ e1 hn
          obtain ⟨s3, e3⟩ := up4 b _ e2 hn
          obtain ⟨s4, e4⟩ := up5 b _ e3 hn
          exact ⟨s4, k4 b _ e4 hn⟩
        have upf : ∀ p ∈ fr, ∃ sl, h6.get? p.1 = some { p.2 with slots := sl } := fun p hp => up p.1 p.2 (C.get (a := p.1) (o := p.2) (.tail _ (.tail _ hp))) (lts _ _ (hfr p hp).1).2 (O.data p hp)
        let fr' : List (Addr × Obj) := fr.map fun p => (p.1, (h6.get? p.1).getD p.2)
        have MK : Marked fr fr' := by
          refine ⟨by simp [fr', List.map_map, Function.comp_def], fun p' hp' => ?_⟩
          obtain ⟨p, hp, rfl⟩ := List.mem_map.mp hp'
          obtain ⟨sl, q⟩ := upf p hp
          exact ⟨p, hp, rfl, sl, by simp [q]⟩
        refine hJ₀ _ _ (h h6 .none tkE fr' _ MK (fun p hp => ?_) (fun b o eb hb => k1 b o (hideAll_get _ (C.keep eb hb) (gk b o eb hb))) ?_ (fun _ q => nomatch q) fun hs => ((hb hs).set _ rfl).set _ rfl)
        · obtain ⟨q, hq, rfl⟩ := List.mem_map.mp hp
          obtain ⟨sl, z⟩ := upf q hq
          show h6.get? q.1 = some ((h6.get? q.1).getD q.2)
          rw [z]; rfl
        · have : gi none row i = .err := by rw [← herr]; congr 1; exact ar171 hi12
          have e0 : gi none row 0 = .err := gi_err this
          unfold toldF
          rw [e0]; rfl
  · refine ⟨0, _, _, _, m2, [.int 0 t0], 0, [0], _, _, rfl, rfl, by decide, fun hb => hb.push rfl, (CT _ rfl), ⟨_, _, _, (Cg.push _).get (.head _), rfl, rfl, rfl⟩, .cons 0 t0 .nil, rfl, rfl, hm2, Array.getElem?_push_size .., fun _ => rfl, fun s'' hs => ⟨rfl, ?_⟩⟩
    obtain ⟨oa, hs, hoa⟩ : ∃ oa, s''.heap = h₀.push oa ∧ oa.isFreed = false := ⟨_, hs, rfl⟩
    have CG := Cg.push oa hoa
    rw [← hs] at CG
    have lowca : 181 ≤ ca := Nat.le_trans hbig (Nat.le_of_lt C.ns.lt)
    have CG2 : Cx w mg mb h2 Lg [ca, L] _ [] s''.heap := ⟨CG.G0, fun b hb => by
        simp only [List.mem_cons, List.not_mem_nil, or_false] at hb
        rcases hb with rfl | rfl
        · exact lowca
        · exact hbig, ⟨CG.ns, fun b o e => CG.keep (of_hideAll _ e) (by simp), by rw [hideAll_size]; exact Nat.le_refl _⟩, fun _ q => nomatch q⟩
    have hsz : s''.heap.objs.size = B := by rw [hs]; exact Heap.size_push ..
    have lt2 : ∀ b o, h2.get? b = some o → b < Lg := fun b o e => Heap.lt_size e
    have st := gi_start (w := w) (mg := mg) (mb := mb) (gc := h2) (L := Lg) (D := [ca, L]) (Ch := [ca, L]) (A := (A.deeper envT).in1) (row := row) (N := 12) (outer := envT :: outer) (ra := ra) (rv := rv) (rn := rn) (s₀ := s'') hh (fun _ q => q) ?_ ?_ (C2.keep hra raD) ?_ hi ?_ ?_ ?_ CG2 rfl (by decide)
    · rw [hsz] at st; exact st
    · simp only [List.mem_cons, List.not_mem_nil, or_false, not_or]
      exact ⟨Nat.ne_of_gt (C2.lt (.head _)), Nat.ne_of_gt C2.ns.lt⟩
    · intro b hb
      rw [hsz]
      simp only [List.mem_cons, List.not_mem_nil, or_false] at hb
      have l3 : h2.objs.size < h₀.objs.size := Cg.ns.lt
      rcases hb with rfl | rfl
      · exact Nat.lt_succ_of_lt (Nat.lt_trans (C2.lt (.head _)) l3)
      · exact Nat.lt_succ_of_lt (Nat.lt_trans C2.ns.lt l3)
    · simp only [List.mem_cons, List.not_mem_nil, or_false, not_or]
      refine ⟨fun e => ?_, Nat.ne_of_lt (Heap.lt_size hra)⟩
      have := C2.get (a := ca) (.head _)
      rw [← show ra = ca from e, C2.keep hra raD] at this
      have l1 := Heap.lt_size hra
      rw [show ra = ca from e] at l1
      exact absurd l1 (Nat.not_lt.mpr (Nat.le_of_lt C.ns.lt))
    · show Option.map _ A.frames = _; rw [hA]; rfl
    · intro q
      obtain ⟨en, hen, hf⟩ := List.mem_filterMap.mp q
      rcases List.mem_cons.mp hen with rfl | hen
      · have : L = Lg := Option.some.inj hf
        exact absurd this (Nat.ne_of_lt C2.ns.lt)
      · obtain ⟨_, p, hp, hpf⟩ := O.ok en hen
        have : p.1 = Lg := Option.some.inj (hpf.symm.trans hf)
        exact absurd this (Nat.ne_of_lt (C2.lt (a := p.1) (o := p.2) (.tail _ hp)))
    · intro en hen
      rcases List.mem_cons.mp hen with rfl | hen
      · obtain ⟨oL, es, ep, hoL, hdL, _⟩ := C2.ns
        exact ⟨(fun q => by have e : (fdOf w 153).scope.kind = .function := rfl; have q : (fdOf w 153).scope.kind = .module := q; rw [e] at q; cases q), L, oL, rfl, CG.keep hoL (by simp), fun vs q => by rw [hdL] at q; cases q⟩
      · obtain ⟨hk', p, hp, hpf⟩ := O.ok en hen
        exact ⟨hk', p.1, p.2, hpf, CG.keep (C2.get (a := p.1) (o := p.2) (.tail _ hp)) (by simp), O.data p hp⟩
end
end Mine

namespace Mine
/-- what an element's evaluation brings: None, or a new list of ints -/
def OptN (h h' : Heap) (y : Value) (d : Option (List Int)) : Prop := match d with
  | none => y = .none
  | some ks => ∃ a vs n, y = .ref a ∧ h.get? a = none ∧ h'.get? a = some (listOf vs.toArray n) ∧ IntsAre vs ks ∧ ks.length ≤ 100
/-- None, or a list of ints among the known objects -/
def OptO (objs : List (Addr × Obj)) (y : Value) (d : Option (List Int)) : Prop := match d with
  | none => y = .none
  | some ks => ∃ a vs n, y = .ref a ∧ (a, listOf vs.toArray n) ∈ objs ∧ IntsAre vs ks ∧ ks.length ≤ 100
theorem OptO.mono {objs objs' : List (Addr × Obj)} (hs : ∀ p ∈ objs, p ∈ objs') {y : Value} {d : Option (List Int)} (h : OptO objs y d) : OptO objs' y d := by
  cases d with
  | none => exact h
  | some ks => obtain ⟨a, vs, n, e, hm, r⟩ := h; exact ⟨a, vs, n, e, hs _ hm, r⟩
section
variable {w : World} {mg mb : Str → Option Value} {g : Heap} {L : Addr} {D : List Addr} {m : Str → Option Value} {own : List (Addr × Obj)} {A : Around} {E : Value → Shared → Prop} {env : Env}
theorem OptN.cx {h h' : Heap} {y : Value} {d : Option (List Int)} (x : OptN h h' y d) (C : Cx w mg mb g L D m own h) (hk : ∀ b o, h.get? b = some o → b ≠ L → h'.get? b = some o) (hL : ∀ o, h.get? L = some o → ∃ sl, h'.get? L = some { o with slots := sl }) :
    ∃ new, Cx w mg mb g L D m (new ++ own) h' ∧ OptO new y d ∧ ∀ p ∈ new, h.get? p.1 = none := by
  cases d with
  | none => exact ⟨[], C.callL (D' := []) (fun b o e _ q => hk b o e q) hL (fun _ q => nomatch q) fun p hp => .inl ⟨hp, by simp⟩, x, fun _ q => nomatch q⟩
  | some ks =>
    obtain ⟨a, vs, n, e, ha, ha', r⟩ := x
    refine ⟨[(a, listOf vs.toArray n)], C.callL (D' := []) (fun b o e _ q => hk b o e q) hL (fun _ q => nomatch q) fun p hp => ?_, ⟨a, vs, n, e, .head _, r⟩, fun p hp => by rcases List.mem_singleton.mp hp with rfl; exact ha⟩
    rcases List.mem_cons.mp hp with rfl | hp
    · refine .inr ⟨ha', fun e => ?_, ?_⟩
      · obtain ⟨oL, _, _, hoL, _⟩ := C.ns
        rw [show a = L from e, hoL] at ha; cases ha
      · cases z : (hideAll g D).get? a with
        | none => rfl
        | some o' => rw [C.fr.keep _ _ z] at ha; cases ha
    · exact .inl ⟨hp, by simp⟩
structure CompI (w : World) (mg mb : Str → Option Value) (g : Heap) (L : Addr) (D : List Addr) (m : Str → Option Value) (s₂ : Shared) (I la acc Cm : Addr) (own : List (Addr × Obj)) (N : Nat) (d : Nat → Option (List Int)) (j : Nat) (s' : Shared)
    (i : Nat) (h' : Heap) (tk : Nat) (gn : Array GenState) (objs : List (Addr × Obj)) (oC : Obj) (mc : Str → Option Value) (ys : List Value) (n : Nat) (oi : Obj) : Prop where
  hs : s' = { s₂ with heap := h', toks := tk, gens := gn }
  hj : j + i = N
  C : Cx w mg mb g L D m ((I, oi) :: (acc, listOf ys.toArray n) :: (Cm, oC) :: (objs ++ own)) h'
  hc : oi.cls = .type "list_iterator"
  hd : oi.data = .fields #[.ref la, .int (i : Nat) 0]
  hap : ∀ p ∈ objs, p.1 ≠ acc ∧ p.1 ≠ Cm ∧ p.1 ≠ I
  hns : h'.Ns Cm mc
  hb : AllBare s₂.gens → AllBare gn
  hP : Paired (OptO objs) ys ((List.range i).map d)
theorem comp_core {elt iter : Expr} {x : Str} {px : Pos} {scope : Scope} {cl : List (Str × Addr)} {pos : Pos} {s₂ : Shared} {I la : Addr} {items : List Value} {na : Nat} {d : Nat → Option (List Int)} {RR : Value → Addr → Result → Shared → Prop} (hh : A.handled = none)
    (hcell : ∀ y ∈ scope.names, y.2 ≠ .cell) (hkind : scope.kind = .function) (hx : scope.names.lookup x = some .local)
    (C : Cx w mg mb g L D m ((I, { cls := .type "list_iterator", data := .fields #[.ref la, .int 0 0] }) :: own) s₂.heap) (hla : (la, listOf items.toArray na) ∈ own) (hIne : ∀ p ∈ own, p.1 ≠ I) (hlen : items.length ≤ 1000)
    (step : ∀ i v Cm mc h' tk gn own' E', items[i]? = some v → Cx w mg mb g L D m own' h' → (∀ p ∈ own, p ∈ own') → h'.Ns Cm mc → mc x = some v → Cm ≠ L → (AllBare s₂.gens → AllBare gn) →
      wpAny (model pg w) A (eval elt (compEnvC scope cl Cm env)) (fun y s4 => ∃ h'' tk'' gn'', s4 = { s₂ with heap := h'', toks := tk'', gens := gn'' } ∧ (AllBare gn → AllBare gn'') ∧ (∀ b o, h'.get? b = some o → b ≠ L → h''.get? b = some o) ∧
        (∀ o, h'.get? L = some o → ∃ sl, h''.get? L = some { o with slots := sl }) ∧ OptN h' h'' y (d i)) E' { s₂ with heap := h', toks := tk, gens := gn })
    (hRR : ∀ acc Cm h' tk gn objs oC mc ys n, Cx w mg mb g L D m ((acc, listOf ys.toArray n) :: (Cm, oC) :: (objs ++ own)) h' → acc ≠ Cm → (∀ p ∈ objs ++ own, p.1 ≠ acc ∧ p.1 ≠ Cm) → h'.Ns Cm mc → (AllBare s₂.gens → AllBare gn) → Paired (OptO objs) ys ((List.range items.length).map d) → RR (.ref acc) Cm (.ok .next) { s₂ with heap := h', toks := tk, gens := gn }) :
    wpAny (model pg w) A (newList []) (fun acc s₃ => wpAny (model pg w) A (newFunctionEnv scope env.globals cl [] env.qual none .none (some env)) (fun cenv s₄ =>
      codeAny (model pg w) A (.compStart (.ListComp elt [⟨.Name x px, iter, [], 0⟩] scope pos) 0 (.ref I) acc { cenv with scope := relabel scope env }) (RR acc cenv.locals) s₄) E s₃) E s₂ := by
  refine wpAny_newList ?_ (Nat.zero_le _)
  refine wpAny_newFunctionEnv hcell (by intro y hy; simp at hy) (fun h₁ hns₁ hsb₁ => ?_) hkind
  dsimp only at hns₁ hsb₁ ⊢
  let acc := s₂.heap.objs.size
  let Cm := (s₂.heap.push (listOf #[] 0)).objs.size
  have C1 := C.push (listOf #[] 0)
  obtain ⟨oC, esC, epC, hoC, rC⟩ := id hns₁
  have C3 : Cx w mg mb g L D m ((Cm, oC) :: (acc, listOf #[] 0) :: (I, { cls := .type "list_iterator", data := .fields #[.ref la, .int 0 0] }) :: own) h₁ :=
    (C1.push _ rfl).chg (.head _) hsb₁ hoC (Upd.here (Upd.rest fun p hp => ⟨Nat.ne_of_lt (C1.lt (a := p.1) (o := p.2) hp), .tail _ hp⟩))
  have aCm : acc ≠ Cm := Nat.ne_of_lt (C1.lt (.head _))
  have aI : acc ≠ I := Nat.ne_of_gt (C.lt (.head _))
  have CI : Cm ≠ I := Nat.ne_of_gt (C1.lt (.tail _ (.head _)))
  have CL : Cm ≠ L := C3.ne (.head _)
  have own0 : ∀ p ∈ own, p.1 ≠ acc ∧ p.1 ≠ Cm := fun p hp => ⟨Nat.ne_of_lt (C.lt (a := p.1) (o := p.2) (.tail _ hp)), Nat.ne_of_lt (C1.lt (a := p.1) (o := p.2) (.tail _ (.tail _ hp)))⟩
  suffices loop : ∀ s' : Shared, s' = { s₂ with heap := h₁, toks := s₂.toks + ([] : List (Str × Value)).length } →
      codeAny (model pg w) A (.compLoop (.ListComp elt [⟨.Name x px, iter, [], 0⟩] scope pos) 0 (.ref I) (.ref acc) (compEnvC scope cl Cm env)) (RR (.ref acc) Cm) s' by
    refine codeAny_compStart_list (loop _ rfl) ?_
    exact wpAny_pyIter_listiter (l := la) (i := 0) ⟨_, C3.get (.tail _ (.tail _ (.head _))), rfl, rfl⟩ (loop _ rfl)
  rintro s' rfl
  refine codeAny_compLoop_tests (fun j s' => ∃ i h' tk gn objs oC mc ys n oi, CompI w mg mb g L D m s₂ I la acc Cm own items.length d j s' i h' tk gn objs oC mc ys n oi) ?_ items.length ⟨0, h₁, _, s₂.gens, [], oC, _, [], 0, { cls := .type "list_iterator", data := .fields #[.ref la, .int 0 0] }, rfl, by exact ar178, C3.sub fun p hp => ?_, rfl, rfl, fun _ q => (nomatch q), hns₁, id, .nil⟩
  · rintro j s' ⟨i, h', tk, gn, objs, oC, mc, ys, n, oi, rfl, hj, C', hc, hdat, hap, hns, hb, hP⟩
    have hl' : h'.IsList la items.toArray := isList_of (C'.get (.tail _ (.tail _ (.tail _ (List.mem_append_right _ hla)))))
    by_cases hlt : i < items.length
    · obtain ⟨v, hv⟩ : ∃ v, items[i]? = some v := ⟨_, List.getElem?_eq_getElem hlt⟩
      refine wpAny_pyNext_list_item ⟨oi, C'.get (.head _), hc, hdat⟩ hl' (by simpa using hv) fun h1 hit1 sb => ?_
      obtain ⟨oi1, ho1, hc1, hd1⟩ := hit1
      have neI : ∀ p ∈ (acc, listOf ys.toArray n) :: (Cm, oC) :: (objs ++ own), p.1 ≠ I := fun p hp => by
        rcases List.mem_cons.mp hp with rfl | hp
        · exact aI
        · rcases List.mem_cons.mp hp with rfl | hp
          · exact CI
          · rcases List.mem_append.mp hp with hp | hp
            · exact (hap p hp).2.2
            · exact hIne p hp
      have neC : ∀ p ∈ objs ++ own, p.1 ≠ Cm := fun p hp => by
        rcases List.mem_append.mp hp with hp | hp
        · exact (hap p hp).2.1
        · exact (own0 p hp).2
      have neA : ∀ p ∈ objs ++ own, p.1 ≠ acc := fun p hp => by
        rcases List.mem_append.mp hp with hp | hp
        · exact (hap p hp).1
        · exact (own0 p hp).1
      have C2 := C'.chg (.head _) sb ho1 (Upd.here (Upd.rest fun p hp => ⟨neI p hp, .tail _ hp⟩))
      have hns1 : h1.Ns Cm mc := hns.sameBut sb CI
      refine wpAny_assign_Name (wpAny_storeName_local (lookup_relabel_local hx) hns1 (fun h2 hn2 hs2 => ?_) (by simp [compEnvC, relabel, hkind]))
      obtain ⟨oC2, es2, ep2, hoC2, r2⟩ := id hn2
      have C4 := C2.chg (own' := (I, oi1) :: (acc, listOf ys.toArray n) :: (Cm, oC2) :: (objs ++ own)) (.tail _ (.tail _ (.head _))) hs2 hoC2 (Upd.other (Ne.symm CI) (.head _) (Upd.other aCm (.tail _ (.head _)) (Upd.here (Upd.rest fun p hp => ⟨neC p hp, .tail _ (.tail _ (.tail _ hp))⟩))))
      refine wpAny_tests_nil ?_
      rw [if_pos rfl]
      refine wpAny_mono (step i v Cm _ h2 _ gn _ _ hv C4 (fun p hp => .tail _ (.tail _ (.tail _ (List.mem_append_right _ hp)))) hn2 (by simp) CL hb) (fun y s4 hq => ?_) fun _ _ q => q
      obtain ⟨h3, tk3, gn3, rfl, hb3, k3, kL3, hN⟩ := hq
      obtain ⟨new, C5, hO, hnew⟩ := hN.cx C4 k3 kL3
      have hnacc : ∀ p ∈ new, p.1 ≠ acc ∧ p.1 ≠ Cm ∧ p.1 ≠ I := fun p hp => by
        have z := hnew p hp
        refine ⟨fun e => ?_, fun e => ?_, fun e => ?_⟩
        · rw [e, C4.get (a := acc) (.tail _ (.head _))] at z; cases z
        · rw [e, C4.get (a := Cm) (.tail _ (.tail _ (.head _)))] at z; cases z
        · rw [e, C4.get (a := I) (.head _)] at z; cases z
      have hys : ys.length = i := by have := hP.length; simpa using this
      refine wpAny_list_append_plain ⟨_, C5.get (List.mem_append_right _ (.tail _ (.head _)))⟩ (fun h4 hl4 sb4 => ?_) (by rw [sizeLine_eq, List.size_toArray, hys]; exact ar179 hlen hj)
      obtain ⟨n4, hl4⟩ := hl4
      rw [show (ys.toArray.push y) = (ys ++ [y]).toArray from by simp] at hl4
      have C7 : Cx w mg mb g L D m ((I, oi1) :: (acc, listOf (ys ++ [y]).toArray n4) :: (Cm, oC2) :: (new ++ objs ++ own)) h4 := C5.chg (a := acc) (o := listOf ys.toArray n) (List.mem_append_right _ (.tail _ (.head _))) sb4 hl4 fun p hp => by
        rcases List.mem_cons.mp hp with rfl | hp
        · exact .inr ⟨Ne.symm aI, List.mem_append_right _ (.head _)⟩
        · rcases List.mem_cons.mp hp with rfl | hp
          · exact .inl rfl
          · rcases List.mem_cons.mp hp with rfl | hp
            · exact .inr ⟨Ne.symm aCm, List.mem_append_right _ (.tail _ (.tail _ (.head _)))⟩
            · rw [List.append_assoc] at hp
              rcases List.mem_append.mp hp with hp | hp
              · exact .inr ⟨(hnacc p hp).1, List.mem_append_left _ hp⟩
              · exact .inr ⟨neA p hp, List.mem_append_right _ (.tail _ (.tail _ (.tail _ hp)))⟩
      have hn3 : h3.Ns Cm (fun z => if z = x then some v else mc z) := ⟨oC2, es2, ep2, k3 _ _ hoC2 CL, r2⟩
      have hn4 : h4.Ns Cm (fun z => if z = x then some v else mc z) := hn3.sameBut sb4 (Ne.symm aCm)
      refine ⟨j - 1, by exact ar109 hj hlt, i + 1, h4, tk3, gn3, new ++ objs, oC2, (fun z => if z = x then some v else mc z), ys ++ [y], n4, oi1, rfl, by exact ar110 hj hlt, C7, hc1, hd1, fun p hp => ?_, hn4, fun h => hb3 (hb h), ?_⟩
      · rcases List.mem_append.mp hp with hp | hp
        · exact hnacc p hp
        · exact hap p hp
      · rw [List.range_succ, List.map_append]
        exact Paired.snoc (hP.mono fun _ _ q => q.mono fun p hp => List.mem_append_right _ hp) (hO.mono fun p hp => List.mem_append_left _ hp)
    · have : i = items.length := by exact ar180 hj hlt
      subst this
      refine wpAny_pyNext_list_end hh ⟨oi, C'.get (.head _), hc, hdat⟩ hl' (by simp) fun h1 ext => ?_
      have C6 : Cx w mg mb g L D m ((acc, listOf ys.toArray n) :: (Cm, oC) :: (objs ++ own)) h1 := C'.call (D' := [I]) (fun b o e q => ext b o (by simpa using q) e) (fun b hb => by rcases List.mem_singleton.mp hb with rfl; exact ⟨_, .head _⟩) fun p hp => .inl ⟨.tail _ hp, fun q => ?_⟩
      · refine hRR acc Cm h1 tk gn objs oC mc ys n C6 aCm (fun p hp => ?_) ?_ hb hP
        · rcases List.mem_append.mp hp with hp | hp
          · exact ⟨(hap p hp).1, (hap p hp).2.1⟩
          · exact own0 p hp
        · obtain ⟨o2, es2, ep2, ho2, r2⟩ := hns
          exact ⟨o2, es2, ep2, ext _ _ CI ho2, r2⟩
      · have q : p.1 = I := List.mem_singleton.mp q
        rcases List.mem_cons.mp hp with rfl | hp
        · exact aI q
        · rcases List.mem_cons.mp hp with rfl | hp
          · exact CI q
          · rcases List.mem_append.mp hp with hp | hp
            · exact (hap p hp).2.2 q
            · exact hIne p hp q
  · simp only [List.nil_append, List.mem_cons] at hp ⊢
    rcases hp with rfl | rfl | rfl | hp
    · exact .inr (.inr (.inl rfl))
    · exact .inr (.inl rfl)
    · exact .inl rfl
    · exact .inr (.inr (.inr hp))
end
end Mine

namespace Mine
section
variable {w : World} {mg mb : Str → Option Value} {g : Heap} {L : Addr} {D : List Addr} {A : Around} {E : Value → Shared → Prop} {env : Env}
theorem Cx.drop {m : Str → Option Value} {own own' : List (Addr × Obj)} {h h' : Heap} {c : Addr} {o : Obj} (C : Cx w mg mb g L D m own h) (hc : (c, o) ∈ own) (hs : Heap.SameBut c h h') (ho : ∀ p ∈ own', p ∈ own ∧ p.1 ≠ c) : Cx w mg mb g L D m own' h' :=
  C.call (D' := [c]) (fun b o e q => (hs.2 b (by simpa using q)).trans e) (fun b hb => by rcases List.mem_singleton.mp hb with rfl; exact ⟨_, hc⟩) fun p hp => .inl ⟨(ho p hp).1, by simpa using (ho p hp).2⟩
/-- what a comprehension with calls asks of its element -/
def EltOk (w : World) (mg mb : Str → Option Value) (g : Heap) (L : Addr) (D : List Addr) (A : Around) (env : Env) (elt : Expr) (x : Str) (scope : Scope) (cl : List (Str × Addr)) (m : Str → Option Value) (own : List (Addr × Obj)) (items : List Value) (d : Nat → Option (List Int)) (s₂ : Shared) : Prop :=
  ∀ i v Cm mc h' tk gn own' E', items[i]? = some v → Cx w mg mb g L D m own' h' → (∀ p ∈ own, p ∈ own') → h'.Ns Cm mc → mc x = some v → Cm ≠ L → (AllBare s₂.gens → AllBare gn) →
      wpAny (model pg w) A (eval elt (compEnvC scope cl Cm env)) (fun y s4 => ∃ h'' tk'' gn'', s4 = { s₂ with heap := h'', toks := tk'', gens := gn'' } ∧ (AllBare gn → AllBare gn'') ∧ (∀ b o, h'.get? b = some o → b ≠ L → h''.get? b = some o) ∧
        (∀ o, h'.get? L = some o → ∃ sl, h''.get? L = some { o with slots := sl }) ∧ OptN h' h'' y (d i)) E' { s₂ with heap := h', toks := tk, gens := gn }
structure ValI (w : World) (mg mb : Str → Option Value) (g : Heap) (L : Addr) (D : List Addr) (A : Around) (env : Env) (elt : Expr) (x : Str) (scope : Scope) (cl : List (Str × Addr)) (Q : Value → Shared → Prop) (xv : Value) (s₁ : Shared)
    (la : Addr) (items : List Value) (na : Nat) (m : Str → Option Value) (own : List (Addr × Obj)) (d : Nat → Option (List Int)) : Prop where
  xv : xv = .ref la
  C : Cx w mg mb g L D m own s₁.heap
  hla : (la, listOf items.toArray na) ∈ own
  hlen : items.length ≤ 1000
  elt : EltOk w mg mb g L D A env elt x scope cl m own items d s₁
  res : ∀ acc h' tk gn objs ys n, Cx w mg mb g L D m ((acc, listOf ys.toArray n) :: (objs ++ own)) h' → (∀ p ∈ objs ++ own, p.1 ≠ acc) → (AllBare s₁.gens → AllBare gn) → Paired (OptO objs) ys ((List.range items.length).map d) → Q (.ref acc) { s₁ with heap := h', toks := tk, gens := gn }
theorem comp_val {elt iter : Expr} {x : Str} {px : Pos} {scope : Scope} {cl : List (Str × Addr)} {pos : Pos} {s : Shared} {Q : Value → Shared → Prop} (hh : A.handled = none)
    (hclos : closureFor scope env = pure cl) (hcell : ∀ y ∈ scope.names, y.2 ≠ .cell) (hkind : scope.kind = .function)
    (hnames : ∀ y ∈ scope.names, y.2 = .local → scope.names.lookup y.1 = some .local) (hx : scope.names.lookup x = some .local)
    (h : wpAny (model pg w) A (eval iter env) (fun xv s₁ => ∃ la items na m own d, ValI w mg mb g L D A env elt x scope cl Q xv s₁ la items na m own d) E s)
    (hs : ∀ x, foldedSetIterable iter env x = pure x := by intro _; rfl) :
    wpAny (model pg w) A (eval (.ListComp elt [⟨.Name x px, iter, [], 0⟩] scope pos) env) Q E s := by
  rw [eval_ListComp]
  refine wpAny_comprehension_free (use := none) rfl hs hclos hkind hnames (wpAny_mono h (fun xv s₁ h₁ => ?_) fun _ _ e => e)
  obtain ⟨la, items, na, m, own, d, rfl, C, hla, hlen, hst, hq⟩ := h₁
  refine wpAny_pyIter_list (isList_of (C.get hla)) ?_
  refine comp_core (s₂ := { s₁ with heap := s₁.heap.push { cls := .type "list_iterator", data := .fields #[.ref la, .int 0 0] } }) (RR := fun acc C => compPost (model pg w) A E none Q acc C) hh hcell hkind hx (C.push { cls := .type "list_iterator", data := .fields #[.ref la, .int 0 0] }) hla (fun p hp => Nat.ne_of_lt (C.lt (a := p.1) (o := p.2) hp)) hlen (fun i v Cm mc h' tk gn own' E' a b c e f k l => hst i v Cm mc h' tk gn own' E' a b c e f k l) ?_
  intro acc Cm h' tk gn objs oC mc ys n C' hac hne hns hb hP
  refine ⟨mc, hns, fun h'' hs'' => hq acc h'' tk gn objs ys n (C'.drop (.tail _ (.head _)) hs'' fun p hp => ?_) (fun p hp => (hne p hp).1) hb hP⟩
  rcases List.mem_cons.mp hp with rfl | hp
  · exact ⟨.head _, hac⟩
  · exact ⟨.tail _ (.tail _ hp), (hne p hp).2⟩
theorem comp_asg {elt iter : Expr} {x y : Str} {px py : Pos} {scope : Scope} {cl : List (Str × Addr)} {pos spos : Pos} {s : Shared} {Q : Flow → Shared → Prop} (hh : A.handled = none) (hL : env.locals = L)
    (hsw : swapsWith (.ListComp elt [⟨.Name x px, iter, [], 0⟩] scope pos) (some (.Name y py)) spos.line env = pure true)
    (hclos : closureFor scope env = pure cl) (hcell : ∀ y ∈ scope.names, y.2 ≠ .cell) (hkind : scope.kind = .function)
    (hnames : ∀ y ∈ scope.names, y.2 = .local → scope.names.lookup y.1 = some .local) (hx : scope.names.lookup x = some .local)
    (hy : env.kindOf y = some .local) (hk : env.scope.kind = .function)
    (h : wpAny (model pg w) A (eval iter env) (fun xv s₁ => ∃ la items na m own d, xv = .ref la ∧ Cx w mg mb g L D m own s₁.heap ∧ (la, listOf items.toArray na) ∈ own ∧ items.length ≤ 1000 ∧
      EltOk w mg mb g L D A env elt x scope cl m own items d s₁ ∧
      (∀ acc h' tk gn objs ys n, Cx w mg mb g L D (fun z => if z = y then some (.ref acc) else m z) ((acc, listOf ys.toArray n) :: (objs ++ own)) h' → (∀ p ∈ objs ++ own, p.1 ≠ acc) → (AllBare s₁.gens → AllBare gn) → Paired (OptO objs) ys ((List.range items.length).map d) → Q .next { s₁ with heap := h', toks := tk, gens := gn })) E s)
    (hs : ∀ x, foldedSetIterable iter env x = pure x := by intro _; rfl) :
    wpAny (model pg w) A (exec (.Assign [.Name y py] (.ListComp elt [⟨.Name x px, iter, [], 0⟩] scope pos) spos) env) Q E s := by
  subst hL
  rw [exec_Assign_Name_used _ _ _ _ hsw]
  refine wpAny_bind (wpAny_standAt (wpAny_bind ?_))
  show wpAny _ A (do let _ ← comprehension (.ListComp elt [⟨.Name x px, iter, [], 0⟩] scope pos) scope env _ (newList []) false (eval iter env) (some (assign (.Name y py) env))) _ _ s
  refine wpAny_bind (wpAny_mono (wpAny_comprehension_free (use := some (assign (.Name y py) env)) (Q := fun _ s' => Q .next s') rfl hs hclos hkind hnames
    (wpAny_mono h (fun xv s₁ h₁ => ?_) fun _ _ e => e)) (fun _ s' hq => wpAny_pure (wpAny_pure hq)) fun _ _ e => e)
  obtain ⟨la, items, na, m, own, d, rfl, C, hla, hlen, hst, hq⟩ := h₁
  refine wpAny_pyIter_list (isList_of (C.get hla)) ?_
  refine comp_core (s₂ := { s₁ with heap := s₁.heap.push { cls := .type "list_iterator", data := .fields #[.ref la, .int 0 0] } }) (RR := fun acc C => compPost (model pg w) A E (some (assign (.Name y py) env)) (fun _ s' => Q .next s') acc C) hh hcell hkind hx (C.push { cls := .type "list_iterator", data := .fields #[.ref la, .int 0 0] }) hla (fun p hp => Nat.ne_of_lt (C.lt (a := p.1) (o := p.2) hp)) hlen (fun i v Cm mc h' tk gn own' E' a b c e f k l => hst i v Cm mc h' tk gn own' E' a b c e f k l) ?_
  intro acc Cm h' tk gn objs oC mc ys n C' hac hne hns hb hP
  show wpAny _ A (assign (.Name y py) env (.ref acc)) _ _ _
  have CL : Cm ≠ env.locals := C'.ne (.tail _ (.head _))
  refine wpAny_assign_Name (wpAny_storeName_local hy C'.ns (fun h₂ hn₂ hs₂ => ?_) (by rw [hk]; rfl))
  refine ⟨mc, hns.sameBut hs₂ CL, fun h'' hs'' => hq acc h'' _ gn objs ys n ((C'.st hn₂ hs₂).drop (.tail _ (.head _)) hs'' fun p hp => ?_) (fun p hp => (hne p hp).1) hb hP⟩
  rcases List.mem_cons.mp hp with rfl | hp
  · exact ⟨.head _, hac⟩
  · exact ⟨.tail _ (.tail _ hp), (hne p hp).2⟩
end
end Mine

namespace Mine
noncomputable def envLaw (w : World) (L : Addr) : Env := envOfC (fdOf w 180).qualname (fdOf w 180).scope L 180 (fdOf w 180).code
def fixedL : List Int := [243, 713, 7, 42, 0, 5234]
def figF (ks : List Int) : List Int := (((ks.take 63).map fun k => k.fmod 1000000) ++ fixedL).take 6
theorem ten6 : ((10 : Int) ^ (6 : Int).toNat) = 1000000 := by decide
theorem fig_len (ks : List Int) : (figF ks).length = 6 := by
  unfold figF fixedL
  rw [List.length_take, List.length_append]; simp
theorem fig_mem {ks : List Int} {k : Int} (h : k ∈ figF ks) : 0 ≤ k ∧ k < 1000000 := by
  have h := List.mem_of_mem_take h
  rcases List.mem_append.mp h with h | h
  · obtain ⟨x, _, rfl⟩ := List.mem_map.mp h
    rw [Int.fmod_eq_emod_of_nonneg _ (by decide)]; exact ar18
  · unfold fixedL at h
    simp only [List.mem_cons, List.not_mem_nil, or_false] at h
    rcases h with rfl | rfl | rfl | rfl | rfl | rfl <;> decide
section
variable {w : World} {mg mb : Str → Option Value} {g : Heap} {L : Addr} {m : Str → Option Value} {own : List (Addr × Obj)} {A : Around} {E : Value → Shared → Prop} {s : Shared}
theorem law_fixed {Q : Flow → Shared → Prop} (C : Cx w mg mb g L [] m own s.heap)
    (h : ∀ h' tk fx fv, Cx w mg mb g L [] (fun y => if y = "fixed" then some (.ref fx) else m y) ((fx, listOf fv.toArray 0) :: own) h' → IntsAre fv fixedL → Q .next { s with heap := h', toks := tk }) :
    wpAny (model pg w) A (exec (nthS (bodyOf w 180) 0) (envLaw w L)) Q E s := by
  show wpAny _ _ (exec (.Assign [.Name _ _] _ _) (envOfC _ _ _ _ _)) _ _ _
  refine wpAny_Assign_Name (wpAny_mono (Q := fun v s' => ∃ us tk', v = .ref s.heap.objs.size ∧ s' = { s with heap := s.heap.push (listOf us.toArray 0), toks := tk' } ∧ IntsAre us fixedL) (wpAny_List (wpAny_items_cons (wpAny_Constant_int (wpAny_items_cons (wpAny_Constant_int (wpAny_items_cons (wpAny_Constant_int (wpAny_items_cons (wpAny_Constant_int (wpAny_items_cons (wpAny_Constant_int (wpAny_items_cons (wpAny_Constant_int (wpAny_items_nil ⟨by show 6 ≤ sizeLine; decide, ?_⟩)))))))))))))) (fun v s' hq => ?_) fun _ _ q => q)
  · exact ⟨_, _, rfl, rfl, .cons _ _ (.cons _ _ (.cons _ _ (.cons _ _ (.cons _ _ (.cons _ _ .nil)))))⟩
  obtain ⟨us, tk, rfl, rfl, hus⟩ := hq
  exact e_st (C.push _) fun h3 C3 => h h3 _ _ us C3 hus
theorem law_fig {Q : Flow → Shared → Prop} {sa fx : Addr} {vs fv : List Value} {ks : List Int} {nf : Nat} (hh : A.handled = none) (C : Cx w mg mb g L [] m own s.heap) (hm1 : m "script" = some (.ref sa)) (hs : g.IsList sa vs.toArray) (hi : IntsAre vs ks) (hlen : ks.length ≤ 63)
    (hm2 : m "fixed" = some (.ref fx)) (hfx : (fx, listOf fv.toArray nf) ∈ own) (hif : IntsAre fv fixedL)
    (h : ∀ h' tk fa us n, Cx w mg mb g L [] (fun y => if y = "figures" then some (.ref fa) else m y) ((fa, listOf us.toArray n) :: own) h' → IntsAre us (figF ks) → Q .next { s with heap := h', toks := tk }) :
    wpAny (model pg w) A (exec (nthS (bodyOf w 180) 1) (envLaw w L)) Q E s := by
  show wpAny _ _ (exec (.Assign [.Name _ _] _ _) (envOfC _ _ _ _ _)) _ _ _
  refine wpAny_Assign_Name (upto_k (wpAny_BinOp ?_))
  refine comp_list (cl := []) (fun _ => true) (fun v y => ∃ k t, v = .int k t ∧ ∃ t', y = .int (k.fmod 1000000) t') hh (by rfl) (by decide) rfl (by decide) rfl ?_
  refine upto_k (e_loc C hm1 (wpAny_Constant_int ⟨sa, vs, ks, 63, _, rfl, (let ⟨o, ho, r⟩ := hs; ⟨o, C.keep ho (by simp), r⟩), hi, by exact ar19 hlen, rfl, fun h1 a1 hn1 hk1 ha1 hi1 => ?_⟩))
  have C1 := C.gain hk1 hn1 ha1
  refine ⟨a1, _, rfl, isList_of (C1.get (.head _)), by rw [List.size_toArray, hi1.length, List.length_take]; exact ar20, ?_, ?_, ?_⟩
  · intro B v s₃ m₃ E' hv hn3 hm3 hk3
    exact wpAny_tests_nil ⟨rfl, ⟨_, _, rfl, fun _ _ e => e⟩⟩
  · intro B v s₃ m₃ E' hv _ hn3 hm3 hk3
    obtain ⟨j, hj⟩ := List.getElem?_of_mem (by simpa using hv)
    obtain ⟨k, t, hk, rfl⟩ := ia_get hi1 hj
    refine wpAny_BinOp (wpAny_Name (wpAny_loadName_local rfl rfl hn3 hm3 ?_) rfl)
    refine wpAny_BinOp (wpAny_Constant_int (wpAny_Constant_int (pow_int_small (by decide) (by decide) (by decide) ?_)))
    rw [ten6]
    exact PyProof.Rows.mod_int (by decide) ⟨⟨k, t, rfl, _, rfl⟩, ⟨_, _, rfl, fun _ _ e => e⟩⟩
  · intro D' h6 tk6 ys hD hpl hF hk6
    have hys : IntsAre ys.toList ((ks.take 63).map fun k => k.fmod 1000000) := paired_map (F := fun v y => ∃ k t, v = .int k t ∧ ∃ t', y = .int (k.fmod 1000000) t') hi1 (fun k t y _ h => by obtain ⟨k', t', e, t2, rfl⟩ := h; cases e; exact ⟨t2, rfl⟩) (by rw [List.filter_eq_self.mpr (fun _ _ => rfl)] at hF; exact hF)
    obtain ⟨nl, hpl⟩ := hpl
    have C7 := C1.gain hk6 hD hpl
    have yl : ys.toList.length ≤ 63 := by rw [hys.length, List.length_map, List.length_take]; exact ar21
    refine e_loc C7 hm2 ?_
    refine add_lists_ints (vs := ys.toList) (ws := fv) C7.fr C7.nw ⟨_, hpl, rfl, _, rfl⟩ (isList_of (C7.get (.tail _ (.tail _ hfx)))) hys hif (fun h8 F8 N8 hi8 => ?_) (by rw [sizeLine_eq, List.length_map, List.length_take]; show _ + 6 ≤ _; exact ar22)
    have C8 := C7.of F8 N8
    refine wpAny_Constant_int ⟨_, _, _, 6, _, rfl, isList_of (C8.get (.head _)), hi8, by rw [List.length_append, List.length_map, List.length_take]; show _ + 6 ≤ _; exact ar23, rfl, fun h9 a9 hn9 hk9 ha9 hi9 => ?_⟩
    have C9 := C8.gain hk9 hn9 ha9
    refine e_st C9 fun h10 C10 => h h10 _ a9 _ 0 (C10.sub fun p hp => ?_) hi9
    rcases List.mem_cons.mp hp with rfl | hp
    · exact .head _
    · exact .tail _ (.tail _ (.tail _ (.tail _ hp)))
end
end Mine

namespace Mine
theorem row_len (f : Int) : (rowF f).length ≤ 4 := by
  unfold rowF
  rw [List.length_take, List.length_map]
  exact Nat.min_le_right _ _
theorem map_getD {α : Type} (fs : List Int) (d : Int → α) : (List.range fs.length).map (fun i => d (fs.getD i 0)) = fs.map d := by
  apply List.ext_getElem?
  intro i
  rw [List.getElem?_map, List.getElem?_map]
  by_cases h : i < fs.length
  · rw [List.getElem?_range h, List.getElem?_eq_getElem h]
    simp [h]
  · rw [List.getElem?_eq_none (by simpa using h), List.getElem?_eq_none (by simpa using h)]; rfl
theorem optN_of {h h' : Heap} {v : Value} {o : Option (List Int)} (x : Opt h' v o) (hf : ∀ a, v = .ref a → h.get? a = none) : OptN h h' v o := by
  cases o with
  | none => exact x
  | some ks => obtain ⟨a, vs, n, e, ha, r⟩ := x; exact ⟨a, vs, n, e, hf a e, ha, r⟩
theorem paired_get {α β : Type} {F : α → β → Prop} : ∀ {l₁ : List α} {l₂ : List β}, Paired F l₁ l₂ → ∀ (i : Nat) a, l₁[i]? = some a → ∃ b, l₂[i]? = some b ∧ F a b
  | _, _, .nil, i, a, h => by simp at h
  | _, _, .cons h t, 0, a, e => by cases e; exact ⟨_, rfl, h⟩
  | _, _, .cons h t, i + 1, a, e => paired_get t i a (by simpa using e)
section
variable {w : World} {mg mb : Str → Option Value} {g : Heap} {L : Addr} {m : Str → Option Value} {own : List (Addr × Obj)} {A : Around} {E : Value → Shared → Prop} {s : Shared}
theorem elt_row {fv : List Value} {fs : List Int} {s₂ : Shared} {px pf py : Pos} {scope : Scope} (hh : A.handled = none) (hroom : A.depth < recursionLimit) (hif : IntsAre fv fs) (hb : ∀ k ∈ fs, 0 ≤ k ∧ k < 1000000)
    (hsc : scope = { kind := .function, names := [(".0", .local), ("figure", .local), ("_law_row", .globalImplicit)], isGenerator := false, isCoroutine := false }) :
    EltOk w mg mb g L [] A (envLaw w L) (.Call (.Name "_law_row" px) [.Name "figure" py] [] pf) "figure" scope [] m own fv (fun i => some (rowF (fs.getD i 0))) s₂ := by
  subst hsc
  intro i v Cm mc h' tk gn own' E' hv C' hsub hn hm hCL hbare
  obtain ⟨k, t, hk, rfl⟩ := ia_get hif hv
  have hkb := hb k (List.mem_of_getElem? hk)
  have hd : fs.getD i 0 = k := by rw [List.getD_eq_getElem?_getD, hk]; rfl
  refine Call_ (e_glob (v := .ref 146) C' (by with_unfolding_all rfl) ?_)
  refine callWith_K C'.G.X (by with_unfolding_all rfl) (wpAny_items_cons (wpAny_Name (wpAny_loadName_local rfl rfl hn hm (wpAny_items_nil ⟨C'.G.X, ?_⟩)) rfl))
  refine wpAny_call (row_spec C'.G hh hroom hkb.1 hkb.2 ?_)
  intro h'' a us n tk'' hk2 hna ha hi
  exact ⟨h'', tk'', gn, rfl, id, fun b o e _ => hk2 b o e, fun o e => ⟨o.slots, hk2 _ _ e⟩, a, us, n, rfl, hna, ha, by rw [hd]; exact hi, by rw [hd]; have := row_len k; exact ar181 this⟩
theorem law_rows {Q : Flow → Shared → Prop} {fa : Addr} {fv : List Value} {fs : List Int} {nf : Nat} (hh : A.handled = none) (hroom : A.depth < recursionLimit) (C : Cx w mg mb g L [] m own s.heap) (hm1 : m "figures" = some (.ref fa)) (hfa : (fa, listOf fv.toArray nf) ∈ own) (hif : IntsAre fv fs) (hb : ∀ k ∈ fs, 0 ≤ k ∧ k < 1000000) (hlen : fs.length ≤ 6)
    (h : ∀ h' tk gn acc ys n objs, (AllBare s.gens → AllBare gn) → Cx w mg mb g L [] (fun y => if y = "rows" then some (.ref acc) else m y) ((acc, listOf ys.toArray n) :: (objs ++ own)) h' → Paired (OptO objs) ys (fs.map fun k => some (rowF k)) → Q .next { s with heap := h', toks := tk, gens := gn }) :
    wpAny (model pg w) A (exec (nthS (bodyOf w 180) 2) (envLaw w L)) Q E s := by
  show wpAny _ _ (exec (.Assign [.Name _ _] (.ListComp (.Call (.Name _ _) [.Name _ _] [] _) [⟨.Name _ _, .Name _ _, [], 0⟩] _ _) _) (envLaw w L)) _ _ _
  refine comp_asg (g := g) (L := L) (D := []) (mg := mg) (mb := mb) (cl := []) hh rfl (by rfl) (by rfl) (by decide) rfl (by decide) rfl rfl rfl ?_
  refine e_loc C hm1 ⟨fa, fv, nf, m, own, fun i => some (rowF (fs.getD i 0)), rfl, C, hfa, by rw [hif.length]; exact ar67 hlen, elt_row hh hroom hif hb rfl, ?_⟩
  intro acc h' tk gn objs ys n C' hne hbare hP
  refine h h' tk gn acc ys n objs hbare C' ?_
  rw [hif.length, map_getD fs (fun k => some (rowF k))] at hP
  exact hP
theorem law_told {Q : Flow → Shared → Prop} {ra : Addr} {rv : List Value} {rs : List (List Int)} {nr : Nat} (hh : A.handled = none) (hroom : A.depth + 10 < recursionLimit) (hA : A.frames = some [envLaw w L]) (hL : 181 ≤ L) (C : Cx w mg mb g L [] m own s.heap) (hm1 : m "rows" = some (.ref ra)) (hra : (ra, listOf rv.toArray nr) ∈ own) (hir : Paired (OptO own) rv (rs.map some)) (hb : ∀ r ∈ rs, r.length ≤ 10) (hlen : rs.length ≤ 6)
    (h : ∀ h' tk gn acc ys n objs, (AllBare s.gens → AllBare gn) → Cx w mg mb g L [] (fun y => if y = "told" then some (.ref acc) else m y) ((acc, listOf ys.toArray n) :: (objs ++ own)) h' → Paired (OptO objs) ys (rs.map toldF) → Q .next { s with heap := h', toks := tk, gens := gn }) :
    wpAny (model pg w) A (exec (nthS (bodyOf w 180) 3) (envLaw w L)) Q E s := by
  show wpAny _ _ (exec (.Assign [.Name _ _] (.ListComp (.Call (.Name _ _) [.Name _ _] [] _) [⟨.Name _ _, .Name _ _, [], 0⟩] _ _) _) (envLaw w L)) _ _ _
  refine comp_asg (g := g) (L := L) (D := []) (mg := mg) (mb := mb) (cl := []) hh rfl (by rfl) (by rfl) (by decide) rfl (by decide) rfl rfl rfl ?_
  have hrl : rv.length = rs.length := by have := hir.length; rwa [List.length_map] at this
  refine e_loc C hm1 ⟨ra, rv, nr, m, own, fun i => toldF (rs.getD i []), rfl, C, hra, by exact ar64 hlen hrl, ?_, ?_⟩
  · intro i v Cm mc h' tk gn own' E' hv C' hsub hn hm hCL hbare
    obtain ⟨o, ho, hO⟩ := paired_get hir i v hv
    rw [List.getElem?_map] at ho
    cases hr : rs[i]? with
    | none => rw [hr] at ho; cases ho
    | some r =>
      rw [hr] at ho
      cases ho
      obtain ⟨a, vs, n, rfl, ham, hvi, _⟩ := hO
      have hd : rs.getD i [] = r := by rw [List.getD_eq_getElem?_getD, hr]; rfl
      refine Call_ (e_glob (v := .ref 153) C' (by with_unfolding_all rfl) ?_)
      refine callWith_K C'.G.X (by with_unfolding_all rfl) (wpAny_items_cons (wpAny_Name (wpAny_loadName_local rfl rfl hn hm (wpAny_items_nil ⟨C'.G.X, ?_⟩)) rfl))
      obtain ⟨oL, esL, epL, hoL, hdL, rL⟩ := id C'.ns
      refine wpAny_call (told_spec (fr := [(L, oL)]) (outer := [envLaw w L]) C'.G hh hroom hA ⟨fun env he => ?_, fun p hp vs q => ?_, fun p hp => ?_⟩ (fun p hp => ?_) (fun p hp xs n q => ?_) (C'.get (hsub _ ham)) hvi (hb r (List.mem_of_getElem? hr)) (Nat.le_trans hL (Nat.le_of_lt C'.ns.lt)) ?_)
      · rcases List.mem_singleton.mp he with rfl
        exact ⟨(fun q => by have e : (fdOf w 180).scope.kind = .function := rfl; have q : (fdOf w 180).scope.kind = .module := q; rw [e] at q; cases q), _, .head _, rfl⟩
      · rcases List.mem_singleton.mp hp with rfl
        rw [hdL] at q; cases q
      · rcases List.mem_singleton.mp hp with rfl
        exact .head _
      · rcases List.mem_singleton.mp hp with rfl
        exact ⟨hoL, hL⟩
      · rcases List.mem_singleton.mp hp with rfl
        rw [hdL] at q; cases q
      intro h'' v'' tk'' fr' gn'' MK hfr' hk2 hO hfresh hb2
      refine ⟨h'', tk'', gn'', rfl, hb2, fun b o e hbL => hk2 b o e (by simpa using hbL), fun o e => ?_, ?_⟩
      · obtain ⟨oL', fr'', rfl, ⟨sl, hsl⟩, _⟩ := MK.cons_inv (fun _ q => nomatch q)
        have := hfr' (L, oL') (.head _)
        rw [hoL] at e; cases e
        exact ⟨sl, by rw [← hsl]; exact this⟩
      · show OptN _ _ _ (toldF (rs.getD i []))
        rw [hd]; exact optN_of hO hfresh
  · intro acc h' tk gn objs ys n C' hne hbare hP
    refine h h' tk gn acc ys n objs hbare C' ?_
    have : (List.range rv.length).map (fun i => toldF (rs.getD i [])) = rs.map toldF := by
      rw [hrl]
      apply List.ext_getElem?
      intro i
      rw [List.getElem?_map, List.getElem?_map]
      by_cases h : i < rs.length
      · rw [List.getElem?_range h, List.getElem?_eq_getElem h]; simp [h]
      · rw [List.getElem?_eq_none (by simpa using h), List.getElem?_eq_none (by simpa using h)]; rfl
    rw [this] at hP
    exact hP
end
end Mine

namespace Mine
def pdo : Option (List Int) → PyData
  | none => .none
  | some ks => .list (ks.map .int)
abbrev pds (ds : List (Option (List Int))) : PyData := .list (ds.map pdo)
theorem eqv_ints : ∀ ks : List Int, PyData.eqvAll (ks.map PyData.int) (ks.map PyData.int) = true
  | [] => by simp [PyData.eqvAll]
  | k :: ks => by simp [PyData.eqvAll, PyData.eqv, eqv_ints ks]
theorem eqv_pdo (d : Option (List Int)) : PyData.eqv (pdo d) (pdo d) = true := by
  cases d with
  | none => simp [pdo, PyData.eqv]
  | some ks => simp only [pdo, PyData.eqv]; exact eqv_ints ks
theorem eqv_all : ∀ ds : List (Option (List Int)), PyData.eqvAll (ds.map pdo) (ds.map pdo) = true
  | [] => by simp [PyData.eqvAll]
  | d :: ds => by simp only [List.map_cons, PyData.eqvAll]; rw [eqv_pdo, eqv_all ds]; rfl
theorem eqv_pds (ds : List (Option (List Int))) : PyData.eqv (pds ds) (pds ds) = true := by simp only [PyData.eqv]; exact eqv_all ds
theorem depth_pdo (d : Option (List Int)) : (pdo d).depth ≤ 2 := by
  cases d with
  | none => simp [pdo, PyData.depth]
  | some ks => have := PySem.W.depthAll_ints ks; simp only [pdo, PyData.depth]; exact ar61 this
theorem depth_all : ∀ ds : List (Option (List Int)), PyData.depthAll (ds.map pdo) ≤ 2
  | [] => by simp [PyData.depthAll]
  | d :: ds => by
    have h1 := depth_pdo d
    have h2 := depth_all ds
    simp only [List.map_cons, PyData.depthAll]; exact ar62 h1 h2
theorem lay_pdo (d : Option (List Int)) : (pdo d).canLay0 = true := by
  cases d with
  | none => simp [pdo, PyData.canLay0]
  | some ks => simp only [pdo, PyData.canLay0]; exact canLayAll0_ints ks
theorem lay_all : ∀ ds : List (Option (List Int)), PyData.canLayAll0 (ds.map pdo) = true
  | [] => by simp [PyData.canLayAll0]
  | d :: ds => by simp only [List.map_cons, PyData.canLayAll0]; rw [lay_pdo, lay_all ds]; rfl
theorem shaped_pds (ds : List (Option (List Int))) : SeqAt.shaped (pds ds) = true := by
  have h1 := depth_all ds
  have h2 : PyData.depth (pds ds) ≤ 64 := by simp only [PyData.depth]; exact ar63 h1
  show (PyData.canLay0 (pds ds) && decide (PyData.depth (pds ds) ≤ 64)) = true
  rw [Bool.and_eq_true]
  exact ⟨by simp only [PyData.canLay0]; exact lay_all ds, decide_eq_true h2⟩
theorem reads_opt {h : Heap} {objs : List (Addr × Obj)} (hg : ∀ p ∈ objs, h.get? p.1 = some p.2) {y : Value} {d : Option (List Int)} (x : OptO objs y d) : ∃ as, Reads h y (pdo d) as := by
  cases d with
  | none => cases x; exact ⟨_, .none⟩
  | some ks =>
    obtain ⟨a, vs, n, rfl, hm, hi, _⟩ := x
    exact ⟨_, reads_of_ints (isList_of (hg _ hm)) hi⟩
theorem reads_all {h : Heap} {objs : List (Addr × Obj)} (hg : ∀ p ∈ objs, h.get? p.1 = some p.2) : ∀ {ys : List Value} {ds : List (Option (List Int))}, Paired (OptO objs) ys ds → ∃ as, ReadsAll h ys (ds.map pdo) as
  | _, _, .nil => ⟨_, .nil⟩
  | _, _, .cons x t => by
    obtain ⟨a1, r1⟩ := reads_opt hg x
    obtain ⟨a2, r2⟩ := reads_all hg t
    exact ⟨_, .cons r1 r2⟩
theorem reads_pds {h : Heap} {objs : List (Addr × Obj)} {a : Addr} {ys : List Value} {n : Nat} {ds : List (Option (List Int))} (hg : ∀ p ∈ objs, h.get? p.1 = some p.2) (ha : h.get? a = some (listOf ys.toArray n)) (hP : Paired (OptO objs) ys ds) : ∃ as, Reads h (.ref a) (pds ds) as := by
  obtain ⟨as, r⟩ := reads_all hg hP
  exact ⟨_, .list ha rfl rfl (by simpa using r)⟩
section
variable {w : World} {mg mb : Str → Option Value} {g : Heap} {L : Addr} {m : Str → Option Value} {own : List (Addr × Obj)} {A : Around} {E : Value → Shared → Prop} {s : Shared}
theorem law_check {Q : Flow → Shared → Prop} {fa ra ta : Addr} {fv rv tv : List Value} {fs : List Int} {nf nr nt : Nat} (hh : A.handled = none) (hroom : A.depth + 10 < recursionLimit) (hu : A.units + 200 < cLine) (C : Cx w mg mb g L [] m own s.heap)
    (hm1 : m "figures" = some (.ref fa)) (hfa : (fa, listOf fv.toArray nf) ∈ own) (hif : IntsAre fv fs) (hb : ∀ k ∈ fs, 0 ≤ k ∧ k < 1000000) (hlen : fs.length ≤ 6)
    (hm2 : m "rows" = some (.ref ra)) (hra : (ra, listOf rv.toArray nr) ∈ own) (hir : Paired (OptO own) rv (fs.map fun k => some (rowF k)))
    (hm3 : m "told" = some (.ref ta)) (hta : (ta, listOf tv.toArray nt) ∈ own) (hit : Paired (OptO own) tv (fs.map fun k => toldF (rowF k)))
    (heq : ∀ k ∈ fs, toldF (rowF k) = dueF (rowF k)) (hrb : ∀ f, ∀ k ∈ rowF f, 0 ≤ k ∧ k ≤ 127)
    (h : ∀ h' tk gn, (AllBare s.gens → AllBare gn) → Cx w mg mb g L [] m own h' → Q .next { s with heap := h', toks := tk, gens := gn }) :
    wpAny (model pg w) A (exec (nthS (bodyOf w 180) 4) (envLaw w L)) Q E s := by
  show wpAny _ _ (exec (.If (.BoolOp _ [.Compare (.Name _ _) [_] [.ListComp (.Call (.Name _ _) [.Name _ _] [] _) [⟨.Name _ _, .Name _ _, [], 0⟩] _ _] _, .Compare (.Name _ _) [_] [.ListComp (.Call (.Name _ _) [.Name _ _] [] _) [⟨.Name _ _, .Name _ _, [], 0⟩] _ _] _] _) _ _ _) (envLaw w L)) _ _ _
  refine wpAny_If (wpAny_isTrue_BoolOp (wpAny_allTrue_Or_cons (wpAny_isTrue_Compare1 (e_loc C hm3 ?_))))
  refine comp_val (g := g) (L := L) (D := []) (mg := mg) (mb := mb) (cl := []) hh (by rfl) (by decide) rfl (by decide) rfl ?_
  have hrl : rv.length = fs.length := by have := hir.length; rwa [List.length_map] at this
  refine e_loc C hm2 ⟨ra, rv, nr, m, own, fun i => dueF (rowF (fs.getD i 0)), rfl, C, hra, by exact ar64 hlen hrl, ?_, ?_⟩
  · intro i v Cm mc h' tk gn own' E' hv C' hsub hn hm hCL hbare
    obtain ⟨o, ho, hO⟩ := paired_get hir i v hv
    rw [List.getElem?_map] at ho
    cases hr : fs[i]? with
    | none => rw [hr] at ho; cases ho
    | some r =>
      rw [hr] at ho
      cases ho
      obtain ⟨a, vs, n, rfl, ham, hvi, _⟩ := hO
      have hd : fs.getD i 0 = r := by rw [List.getD_eq_getElem?_getD, hr]; rfl
      refine Call_ (e_glob (v := .ref 158) C' (by with_unfolding_all rfl) ?_)
      refine callWith_K C'.G.X (by with_unfolding_all rfl) (wpAny_items_cons (wpAny_Name (wpAny_loadName_local rfl rfl hn hm (wpAny_items_nil ⟨C'.G.X, ?_⟩)) rfl))
      refine wpAny_call (due_spec C'.G hh (by exact ar65 hroom) hu (C'.get (hsub _ ham)) hvi (by have := row_len r; omega) (hrb r) ?_)
      intro h'' v'' tk'' hk2 hfresh hO
      refine ⟨h'', tk'', gn, rfl, id, fun b o e _ => hk2 b o e, fun o e => ⟨o.slots, hk2 _ _ e⟩, ?_⟩
      show OptN _ _ _ (dueF (rowF (fs.getD i 0)))
      rw [hd]; exact optN_of hO hfresh
  intro acc h' tk gn objs ys n C' hne hbare hP
  rw [hrl, map_getD fs (fun k => dueF (rowF k)), ← List.map_congr_left heq] at hP
  obtain ⟨as1, r1⟩ := reads_pds (h := h') (fun p hp => C'.get (a := p.1) (o := p.2) (.tail _ (List.mem_append_right _ hp))) (C'.get (.tail _ (List.mem_append_right _ hta))) hit
  obtain ⟨as2, r2⟩ := reads_pds (h := h') (fun p hp => C'.get (a := p.1) (o := p.2) (.tail _ (List.mem_append_left _ hp))) (C'.get (.head _)) hP
  refine ne_dataH r1 r2 (shaped_pds _) (shaped_pds _) (by exact ar66 hu) (wpAny_truthy_bool ?_)
  rw [eqv_pds, if_neg (by decide)]
  have C1 := C'.sub (own' := own) fun p hp => .tail _ (List.mem_append_right _ hp)
  refine wpAny_allTrue_Or_cons (wpAny_isTrue_Compare1 (e_loc C1 hm2 ?_))
  refine comp_val (g := g) (L := L) (D := []) (mg := mg) (mb := mb) (cl := []) hh (by rfl) (by decide) rfl (by decide) rfl ?_
  refine e_loc C1 hm1 ⟨fa, fv, nf, m, own, fun i => some (rowF (fs.getD i 0)), rfl, C1, hfa, by rw [hif.length]; exact ar67 hlen, elt_row hh (by exact ar65 hroom) hif hb rfl, ?_⟩
  intro acc2 h2 tk2 gn2 objs2 ys2 n2 C2 hne2 hbare2 hP2
  rw [hif.length, map_getD fs (fun k => some (rowF k))] at hP2
  obtain ⟨as3, r3⟩ := reads_pds (h := h2) (fun p hp => C2.get (a := p.1) (o := p.2) (.tail _ (List.mem_append_right _ hp))) (C2.get (.tail _ (List.mem_append_right _ hra))) hir
  obtain ⟨as4, r4⟩ := reads_pds (h := h2) (fun p hp => C2.get (a := p.1) (o := p.2) (.tail _ (List.mem_append_left _ hp))) (C2.get (.head _)) hP2
  refine ne_dataH r3 r4 (shaped_pds _) (shaped_pds _) (by exact ar66 hu) (wpAny_truthy_bool ?_)
  rw [eqv_pds, if_neg (by decide)]
  refine wpAny_allTrue_Or_nil ?_
  rw [if_neg (by decide)]
  exact wpAny_execs_nil (h h2 _ gn2 (fun x => hbare2 (hbare x)) (C2.sub fun p hp => .tail _ (List.mem_append_right _ hp)))
end
end Mine

namespace Mine
def places : List Int := (List.range 12).map fun (i : Nat) => (i : Int)
structure Sheet (fo so : Option (List Int)) : Prop where
  f0 : ∀ ks, fo = some ks → 0 ∈ ks
  s0 : ∀ ks, so = some ks → 0 ∈ ks
  run : ∃ gs, Run (graphOf fo so) (readyC (graphOf fo so)) gs ∧ (∀ e ∈ graphOf fo so, ∀ p ∈ e.2.2, e.1 < p ∧ p ∈ (graphOf fo so).map (·.1)) ∧ gs.flatten.Perm places ∧
    gs.flatten.Pairwise (fun a b => (lensOf fo so).getD a.toNat 0 ≤ (lensOf fo so).getD b.toNat 0)
theorem opt_of {h : Heap} {objs : List (Addr × Obj)} {y : Value} {d : Option (List Int)} (x : OptO objs y d) (hg : ∀ p ∈ objs, h.get? p.1 = some p.2) : Opt h y d := by
  cases d with
  | none => exact x
  | some ks => obtain ⟨a, vs, n, e, hm, r⟩ := x; exact ⟨a, vs, n, e, hg _ hm, r⟩
theorem paired_at {α β : Type} {F : α → β → Prop} : ∀ {l₁ : List α} {l₂ : List β}, Paired F l₁ l₂ → ∀ (i : Nat) b, l₂[i]? = some b → ∃ a, l₁[i]? = some a ∧ F a b
  | _, _, .nil, i, a, h => by simp at h
  | _, _, .cons h t, 0, a, e => by cases e; exact ⟨_, rfl, h⟩
  | _, _, .cons h t, i + 1, a, e => paired_at t i a (by simpa using e)
theorem sorted_eq {a b : List Int} (ha : a.Pairwise (· ≤ ·)) (hb : b.Pairwise (· ≤ ·)) (p : a.Perm b) : a = b :=
  List.Perm.eq_of_pairwise (le := fun x y : Int => x ≤ y) (fun x y _ _ h1 h2 => Int.le_antisymm h1 h2) ha hb p
theorem places_sorted : places.Pairwise (· ≤ ·) := by decide
theorem places_mem {k : Int} (h : k ∈ places) : 0 ≤ k ∧ k ≤ 11 := by
  unfold places at h
  obtain ⟨i, hi, rfl⟩ := List.mem_map.mp h
  have := List.mem_range.mp hi
  exact ar24 this
theorem map_places {l : List Int} (h : l.length = 12) : places.map (fun p => l.getD p.toNat 0) = l := by
  unfold places
  rw [List.map_map]
  apply List.ext_getElem?
  intro i
  rw [List.getElem?_map]
  by_cases hi : i < 12
  · rw [List.getElem?_range hi, List.getElem?_eq_getElem (by exact ar25 h hi)]; simp [h, hi]
  · rw [List.getElem?_eq_none (by simpa using hi), List.getElem?_eq_none (by exact ar26 h hi)]; rfl
section
variable {w : World} {mg mb : Str → Option Value} {g : Heap} {L c : Addr} {m : Str → Option Value} {own : List (Addr × Obj)} {A : Around} {E : Value → Shared → Prop} {s : Shared}
theorem sheet_args {Q : List Value → Shared → Prop} {ta : Addr} {tv : List Value} {nt : Nat} {i : Nat} {tx : Tok} {vf vs : Value} {px p1 p2 p3 p4 q1 q2 q3 q4 q5 q6 q7 q8 : Pos} {k1 k2 k3 : Nat} (C : Cx w mg mb g L [] m own s.heap) (hmt : m "told" = some (.ref ta)) (hms : m "sheet" = some (.int (i : Nat) tx)) (hta : (ta, listOf tv.toArray nt) ∈ own) (hi : i < 3)
    (hf : tv[2 * i]? = some vf) (hs : tv[2 * i + 1]? = some vs)
    (h : ∀ tk, Q [vf, vs] { s with toks := tk }) :
    wpAny (model pg w) A (spliced (backTo px (starEach [.Subscript (.Name "told" p1) (.BinOp (.Constant (.int 2) k1 p2) .Mult (.Name "sheet" p3) p4) q1, .Subscript (.Name "told" q2) (.BinOp (.BinOp (.Constant (.int 2) k2 q3) .Mult (.Name "sheet" q4) q5) .Add (.Constant (.int 1) k3 q6) q7) q8] (envLaw w L)))) Q E s := by
  have hl := isList_of (C.get hta)
  have l1 := (List.getElem?_eq_some_iff.mp hf).1
  have l2 := (List.getElem?_eq_some_iff.mp hs).1
  refine wpAny_items_cons (Subscript_ (e_loc C hmt (wpAny_BinOp (wpAny_Constant_int (e_loc C hms (PyProof.Rows.mul_int ?_ (.of_left (by decide))))))))
  refine tail_any (ops := [.ref ta, .int (2 * (i : Nat)) _]) (Heap.IsList.typeIs (s := { s with toks := _ }) hl) slot_list_getitem.lookup (wpAny_getItem_list hl (by exact ar27) (by exact ar28 hi) (x := vf) (by rw [show (2 * (i : Int)).toNat = 2 * i by exact ar29]; simpa using hf) ?_) rfl
  refine wpAny_items_cons (Subscript_ (e_loc C hmt (wpAny_BinOp (wpAny_BinOp (wpAny_Constant_int (e_loc C hms (PyProof.Rows.mul_int ?_ (.of_left (by decide)))))))))
  refine wpAny_Constant_int (add_int ?_)
  refine tail_any (ops := [.ref ta, .int (2 * (i : Nat) + 1) _]) (Heap.IsList.typeIs (s := { s with toks := _ }) hl) slot_list_getitem.lookup (wpAny_getItem_list hl (by exact ar30) (by exact ar31 hi) (x := vs) (by rw [show (2 * (i : Int) + 1).toNat = 2 * i + 1 by exact ar32]; simpa using hs) ?_) rfl
  exact wpAny_items_nil (h _)
end
end Mine

namespace Mine
section
variable {w : World} {mg mb : Str → Option Value} {g : Heap} {L c : Addr} {m : Str → Option Value} {ownK : List (Addr × Obj)} {A : Around} {E : Value → Shared → Prop} {s : Shared}
theorem law_sheets {Q : Flow → Shared → Prop} {ta : Addr} {tv : List Value} {nt : Nat} {ds : List (Option (List Int))} {oc : Obj} {v₀ : Option Value} (hh : A.handled = none) (hroom : A.depth + 50 < recursionLimit) (hu : A.units + 200 < cLine) (hA : A.frames = some [envLaw w L]) (hL : 181 ≤ L)
    (hc : c = L + 1) (C : Cx w mg mb g L [] m ((c, oc) :: ownK) s.heap) (hcK : ∀ p ∈ ownK, p.1 ≠ c) (hdc : oc.data = .cell v₀) (hmt : m "told" = some (.ref ta)) (hta : (ta, listOf tv.toArray nt) ∈ ownK) (hit : Paired (OptO ownK) tv ds) (hlen : ds.length = 6)
    (hsh : ∀ i, i < 3 → Sheet (ds.getD (2 * i) none) (ds.getD (2 * i + 1) none))
    (h : ∀ h' tk gn m' own', (AllBare s.gens → AllBare gn) → Cx w mg mb g L [] m' own' h' → Q .next { s with heap := h', toks := tk, gens := gn }) :
    wpAny (model pg w) A (exec (nthS (bodyOf w 180) 5) (envLaw w L)) Q E s := by
  subst hc
  show wpAny _ _ (exec (.For (.Name _ _) _ _ [] _) (envLaw w L)) _ _ _
  let c := L + 1
  let Inv : Nat → (Str → Option Value) → List (Addr × Obj) → Prop := fun i m own => ∃ oc v₀, own = (c, oc) :: ownK ∧ oc.data = .cell v₀ ∧ m "told" = some (.ref ta)
  refine for_range (N := 3) (g := g) (L := L) (D := []) (mg := mg) (mb := mb) hh (by decide) Inv ?_ ?_ ?_
  · refine Call_ (e_built (v := .type "range") C (by with_unfolding_all rfl) (by decide +kernel) (by decide) ?_)
    refine PyProof.Rows.callWith_type1 (wpAny_items_cons (wpAny_Constant_int (wpAny_items_nil (call_range_1 ?_))))
    exact ⟨_, _, _, _, _, _, _, _, rfl, rfl, (C.push _).get (.head _), (C.push _).sub fun p hp => .tail _ hp, oc, v₀, rfl, hdc, hmt⟩
  · intro i m0 own' h' tk gn it oi tx J E' hi hb C hinv hne hoi hJ
    obtain ⟨oc, v₀, rfl, hdc, hmt⟩ := hinv
    have S := hsh i hi
    obtain ⟨gs, hrun, hup, hperm, hpw⟩ := S.run
    generalize hfo : ds.getD (2 * i) none = fo at S hrun hup hpw
    generalize hso : ds.getD (2 * i + 1) none = so at S hrun hup hpw
    have e1 : ds[2 * i]? = some fo := by rw [← hfo, List.getD_eq_getElem?_getD, List.getElem?_eq_getElem (by exact ar68 hlen hi)]; rfl
    have e2 : ds[2 * i + 1]? = some so := by rw [← hso, List.getD_eq_getElem?_getD, List.getElem?_eq_getElem (by exact ar69 hlen hi)]; rfl
    obtain ⟨vf, hvf, hOf⟩ := paired_at hit _ _ e1
    obtain ⟨vs, hvs, hOs⟩ := paired_at hit _ _ e2
    have hgl : gs.flatten.length = 12 := by rw [hperm.length_eq]; rfl
    have itc : it ≠ c := Ne.symm (hne _ (.head _))
    -- lengths
    refine wpAny_execs_cons (wpAny_Assign_Name (Call_ (e_glob (v := .ref 168) C (by with_unfolding_all rfl) ?_)))
    refine callWith_K C.G.X (by with_unfolding_all rfl) (sheet_args C hmt rfl (.tail _ (.tail _ hta)) hi hvf hvs fun tk1 => ⟨C.G.X, ?_⟩)
    have gK : ∀ {h : Heap} {m own}, Cx w mg mb g L [] m own h → (∀ p ∈ ownK, p ∈ own) → ∀ p ∈ ownK, h.get? p.1 = some p.2 := fun C hs p hp => C.get (a := p.1) (o := p.2) (hs p hp)
    refine wpAny_call (lengths_spec C.G hh (by exact ar70 hroom) (opt_of hOf (gK C fun p hp => .tail _ (.tail _ hp))) (opt_of hOs (gK C fun p hp => .tail _ (.tail _ hp))) S.f0 S.s0 ?_)
    intro h4 la us n4 tk4 gn4 hk4 hna4 hla4 hil hb4
    have C4 := C.gain hk4 hna4 hla4
    have lac : la ≠ c := fun e => by rw [e, C.get (a := c) (.tail _ (.head _))] at hna4; cases hna4
    have hul : us.length = 12 := by rw [hil.length, lens_length]
    refine e_stc C4 (.tail _ (.tail _ (.head _))) hdc (fun h5 oc5 hdc5 C5 => ?_)
    replace C5 := C5 ((la, listOf us.toArray n4) :: (it, oi) :: (c, oc5) :: ownK) (Upd.other lac (.head _) (Upd.other itc (.tail _ (.head _)) (Upd.here (Upd.rest fun p hp => ⟨hcK p hp, .tail _ (.tail _ (.tail _ hp))⟩))))
    -- order
    refine wpAny_execs_cons (wpAny_Assign_Name (Call_ (e_glob (v := .ref 175) C5 (by with_unfolding_all rfl) ?_)))
    refine callWith_K C5.G.X (by with_unfolding_all rfl) (sheet_args C5 hmt rfl (.tail _ (.tail _ (.tail _ hta))) hi hvf hvs fun tk5 => ⟨C5.G.X, ?_⟩)
    obtain ⟨oL, esL, epL, hoL, hdL, rL⟩ := id C5.ns
    refine wpAny_call (order_spec (gs := gs) (fr := [(L, oL)]) (outer := [envLaw w L]) C5.G hh (by exact ar71 hroom) hA ⟨fun env he => ?_, fun p hp vs q => ?_, fun p hp => ?_⟩ (fun p hp => ?_) (fun p hp xs n q => ?_) (opt_of hOf (gK C5 fun p hp => .tail _ (.tail _ (.tail _ hp)))) (opt_of hOs (gK C5 fun p hp => .tail _ (.tail _ (.tail _ hp)))) S.s0 (Nat.le_trans hL (Nat.le_of_lt C5.ns.lt)) hrun hup (by exact ar72 hgl) ?_)
    · rcases List.mem_singleton.mp he with rfl
      exact ⟨(fun q => by have e : (fdOf w 180).scope.kind = .function := rfl; have q : (fdOf w 180).scope.kind = .module := q; rw [e] at q; cases q), _, .head _, rfl⟩
    · rcases List.mem_singleton.mp hp with rfl
      rw [hdL] at q; cases q
    · rcases List.mem_singleton.mp hp with rfl
      exact .head _
    · rcases List.mem_singleton.mp hp with rfl
      exact ⟨hoL, hL⟩
    · rcases List.mem_singleton.mp hp with rfl
      rw [hdL] at q; cases q
    intro h6 oa us6 n6 tk6 fr6 gn6 MK hfr6 hk6 hna6 hoa6 hi6 hb6
    have hL6 : ∀ o, h5.get? L = some o → ∃ sl, h6.get? L = some { o with slots := sl } := fun o e => by
      obtain ⟨oL', fr'', rfl, ⟨sl, hsl⟩, _⟩ := MK.cons_inv (fun _ q => nomatch q)
      have := hfr6 (L, oL') (.head _)
      rw [hoL] at e; cases e
      exact ⟨sl, by rw [← hsl]; exact this⟩
    have C6 : Cx w mg mb g L [] _ ((oa, listOf us6.toArray n6) :: (la, listOf us.toArray n4) :: (it, oi) :: (c, oc5) :: ownK) h6 := C5.callL (D' := []) (fun b o e _ hbL => hk6 b o e (by simpa using hbL)) hL6 (fun _ q => nomatch q) fun p hp => by
      rcases List.mem_cons.mp hp with rfl | hp
      · refine .inr ⟨hoa6, fun e => ?_, ?_⟩
        · rw [show oa = L from e, hoL] at hna6; cases hna6
        · cases z : (hideAll g []).get? oa with
          | none => rfl
          | some o' => rw [C5.fr.keep _ _ z] at hna6; cases hna6
      · exact .inl ⟨hp, by simp⟩
    refine e_st C6 fun h7 C7 => ?_
    have hul6 : us6.length = 12 := by rw [hi6.length, hgl]
    -- sorted(order) != list(range(12))
    refine wpAny_execs_cons (wpAny_If (wpAny_isTrue_Compare1 (Call_ (e_built (v := .builtin "sorted") C7 (by with_unfolding_all rfl) boot_sorted (by decide) ?_))))
    refine PyProof.Rows.callWith_builtin1 (wpAny_items_cons (e_loc C7 rfl (wpAny_items_nil ?_)))
    refine sorted_N C7.fr C7.nw (isList_of (C7.get (.head _))) hi6 (by exact ar73 hul6) fun h8 vs8 ns8 e8 F8 N8 hi8 hp8 ho8 => ?_
    have C8 := C7.of F8 N8
    refine Call_ (e_built (v := .type "list") C8 (by with_unfolding_all rfl) (by decide +kernel) (by decide) ?_)
    refine PyProof.Rows.callWith_type1 (wpAny_items_cons (Call_ (e_built (v := .type "range") C8 (by with_unfolding_all rfl) (by decide +kernel) (by decide) ?_)))
    refine PyProof.Rows.callWith_type1 (wpAny_items_cons (wpAny_Constant_int (wpAny_items_nil (call_range_1 ?_))))
    have C9 := fun o ho => C8.push (o : Obj) ho
    refine wpAny_items_nil (call_list_range (n := 12) hh ((C9 _ rfl).get (.head _)) (by decide) (by decide) (by decide) fun h10 tk10 acc n10 hk10 hacc hits => ?_)
    have C10 := ((C9 _ rfl).call0 hk10)
    have hacI : IntsAre acc.toList places := ints_of_get _ _ (by rw [Array.length_toList, hits.1]; rfl) fun j v hv => by
      obtain ⟨t, rfl⟩ := hits.2 j v (by simpa using hv)
      have hj : j < 12 := by have := (List.getElem?_eq_some_iff.mp hv).1; rw [Array.length_toList, hits.1] at this; exact this
      refine ⟨(j : Int), t, ?_, by simp⟩
      unfold places
      rw [List.getElem?_map, List.getElem?_range hj]; rfl
    have e12 : ns8 = places := sorted_eq ho8 places_sorted (hp8.trans hperm)
    refine ne_intsK (us := acc.toList) (isList_of (C10.get (.tail _ (.head _)))) hi8 ⟨_, hacc, rfl, n10, by simp⟩ hacI (by exact ar66 hu) (wpAny_truthy_bool ?_)
    rw [e12, if_neg (by simp)]
    refine wpAny_execs_nil ?_
    have C11 := C10.sub (own' := (oa, listOf us6.toArray n6) :: (la, listOf us.toArray n4) :: (it, oi) :: (c, oc5) :: ownK) fun p hp => .tail _ (.tail _ hp)
    -- along the order
    refine wpAny_execs_cons (wpAny_If (wpAny_isTrue_Compare1 ?_))
    refine comp_list (cl := [("lengths", c)]) (fun _ => true) (fun v y => ∃ k t, v = .int k t ∧ ∃ t', y = .int ((lensOf fo so).getD k.toNat 0) t') hh (by rfl) (by decide) rfl (by decide) rfl ?_
    refine e_loc C11 rfl ⟨oa, _, rfl, isList_of (C11.get (.head _)), by rw [List.size_toArray]; exact ar72 hul6, ?_, ?_, ?_⟩
    · intro B v s₃ m₃ E' hv hn3 hm3 hk3
      exact wpAny_tests_nil ⟨rfl, ⟨_, _, rfl, fun _ _ e => e⟩⟩
    · intro B v s₃ m₃ E' hv _ hn3 hm3 hk3
      obtain ⟨j, hj⟩ := List.getElem?_of_mem (by simpa using hv)
      obtain ⟨k, t, hk, rfl⟩ := ia_get hi6 hj
      have hkb := places_mem (hperm.mem_iff.mp (List.mem_of_getElem? hk))
      obtain ⟨t', hat⟩ := ia_at hil (i := k.toNat) (by rw [lens_length]; exact ar74 hkb)
      refine Subscript_ (wpAny_Name (wpAny_loadName_cell rfl rfl rfl ⟨oc5, hk3 _ _ (C11.get (.tail _ (.tail _ (.tail _ (.head _))))), hdc5⟩ (wpAny_Name (wpAny_loadName_local rfl rfl hn3 hm3 ?_) rfl)) rfl)
      have hl3 : s₃.heap.IsList la us.toArray := isList_of (hk3 _ _ (C11.get (.tail _ (.head _))))
      refine tail_any (ops := [.ref la, .int k t]) hl3.typeIs slot_list_getitem.lookup (wpAny_getItem_list hl3 hkb.1 (by exact ar75 hkb) (by simpa using hat) ?_) rfl
      exact ⟨⟨k, t, rfl, _, rfl⟩, ⟨_, _, rfl, fun _ _ e => e⟩⟩
    · intro D' h12 tk12 ys hD hpl hF hk12
      have hys : IntsAre ys.toList (gs.flatten.map fun k => (lensOf fo so).getD k.toNat 0) := paired_map (F := fun v y => ∃ k t, v = .int k t ∧ ∃ t', y = .int ((lensOf fo so).getD k.toNat 0) t') hi6 (fun k t y _ h => by obtain ⟨k', t', e, t2, rfl⟩ := h; cases e; exact ⟨t2, rfl⟩) (by rw [List.filter_eq_self.mpr (fun _ _ => rfl)] at hF; exact hF)
      obtain ⟨nl, hpl⟩ := hpl
      have C12 := C11.gain hk12 hD hpl
      refine Call_ (e_built (v := .builtin "sorted") C12 (by with_unfolding_all rfl) boot_sorted (by decide) ?_)
      refine PyProof.Rows.callWith_builtin1 (wpAny_items_cons (e_cell C12 (.tail _ (.tail _ (.tail _ (.tail _ (.head _))))) hdc5 (wpAny_items_nil ?_)))
      refine sorted_N C12.fr C12.nw (isList_of (C12.get (.tail _ (.tail _ (.head _))))) hil (by exact ar73 hul) fun h13 vs13 ns13 e13 F13 N13 hi13 hp13 ho13 => ?_
      have C13 := C12.of F13 N13
      have hsame : (gs.flatten.map fun k => (lensOf fo so).getD k.toNat 0) = ns13 := by
        refine sorted_eq (List.pairwise_map.mpr hpw) ho13 ?_
        refine (hperm.map _).trans ?_
        rw [map_places (lens_length fo so 12)]
        exact hp13.symm
      refine ne_intsK (vs := ys.toList) ⟨_, C13.get (.tail _ (.head _)), rfl, nl, by simp⟩ hys (isList_of (C13.get (.head _))) hi13 (by exact ar66 hu) (wpAny_truthy_bool ?_)
      rw [hsame, if_neg (by simp)]
      refine wpAny_execs_nil (wpAny_execs_nil (hJ h13 _ gn6 _ ((c, oc5) :: ownK) (fun x => hb6 (hb4 (hb x))) (C13.sub fun p hp => ?_) ⟨oc5, _, rfl, hdc5, hmt⟩ fun p hp => ?_))
      · rcases List.mem_cons.mp hp with rfl | hp
        · exact .tail _ (.tail _ (.tail _ (.tail _ (.head _))))
        · rcases List.mem_cons.mp hp with rfl | hp
          · exact .tail _ (.tail _ (.tail _ (.tail _ (.tail _ (.head _)))))
          · exact .tail _ (.tail _ (.tail _ (.tail _ (.tail _ (.tail _ hp)))))
      · rcases List.mem_cons.mp hp with rfl | hp
        · exact Ne.symm itc
        · exact hne p (.tail _ hp)
  · intro m' own' h' tk gn hb C hinv
    exact h h' tk gn m' own' hb C
end
end Mine

namespace Mine
/-- what the plain mathematics has to show of a script -/
structure Plain (ks : List Int) : Prop where
  told : ∀ k ∈ figF ks, toldF (rowF k) = dueF (rowF k)
  rows : ∀ f, ∀ k ∈ rowF f, 0 ≤ k ∧ k ≤ 127
  sheet : ∀ i, i < 3 → Sheet (((figF ks).map fun k => toldF (rowF k)).getD (2 * i) none) (((figF ks).map fun k => toldF (rowF k)).getD (2 * i + 1) none)
theorem OptO.filter {h : Heap} {objs : List (Addr × Obj)} {c : Addr} {oc : Obj} (hg : ∀ p ∈ objs, h.get? p.1 = some p.2) (hc : h.get? c = some oc) (hd : ∀ xs n, oc.data ≠ .seq xs n) {y : Value} {d : Option (List Int)} (x : OptO objs y d) :
    OptO (objs.filter fun p => decide (p.1 ≠ c)) y d := by
  cases d with
  | none => exact x
  | some ks =>
    obtain ⟨a, vs, n, e, hm, r⟩ := x
    refine ⟨a, vs, n, e, List.mem_filter.mpr ⟨hm, ?_⟩, r⟩
    refine decide_eq_true fun q => ?_
    have := hg _ hm
    rw [show ((a, listOf vs.toArray n) : Addr × Obj).1 = c from q, hc] at this
    exact hd vs.toArray n (by rw [Option.some.inj this])
section
variable {w : World} {mg mb : Str → Option Value} {A : Around} {s : Shared}
theorem law_spec {R : Result → Shared → Prop} {sa : Addr} {vs : List Value} {ks : List Int} (G : Gd w mg mb s.heap) (hh : A.handled = none) (hroom : A.depth + 60 < recursionLimit) (hu : A.units + 210 < cLine) (hA : A.frames = some []) (hbig : 181 ≤ s.heap.objs.size)
    (hs : s.heap.IsList sa vs.toArray) (hi : IntsAre vs ks) (hlen : ks.length ≤ 63) (P : Plain ks)
    (h : ∀ h' tk gn, (∀ b o, s.heap.get? b = some o → h'.get? b = some o) → (AllBare s.gens → AllBare gn) → R (.ok (.ret (.bool true))) { s with heap := h', toks := tk, gens := gn }) :
    codeAny (model pg w) A (.call (.ref 180) ⟨[.ref sa], []⟩) R s := by
  refine enterC (binds := [("script", .ref sa)]) G (by exact ar186 hroom) rfl (by with_unfolding_all rfl) rfl rfl rfl rfl rfl ?_
  intro h₁ tk hns hk hcell J₀ E₀ hJ₀ hN₀
  have C0 : Cx w mg mb s.heap s.heap.objs.size [] _ [] h₁ := Cx.start0 G hns hk
  obtain ⟨hLc, oc, hoc, hdc⟩ := hcell "lengths" (s.heap.objs.size + 1) rfl
  have C := C0.add hoc (Nat.ne_of_gt hLc) (C0.hid (Nat.le_of_lt hLc))
  let L := s.heap.objs.size
  have hA' : (A.deeper (envLaw w L)).frames = some [envLaw w L] := by show Option.map _ A.frames = _; rw [hA]; rfl
  have hrm : ∀ k, k < 59 → (A.deeper (envLaw w L)).depth + k < recursionLimit := fun k hk => by show A.depth + 1 + k < _; exact ar187 hroom hk
  have hun : (A.deeper (envLaw w L)).units + 200 < cLine := by show A.units + 3 + 200 < _; exact ar188 hu
  refine wpAny_execs_cons (law_fixed C fun h2 tk2 fx fv C2 hif => ?_)
  refine wpAny_execs_cons (law_fig (A := A.deeper (envLaw w L)) hh C2 rfl hs hi hlen rfl (.head _) hif fun h3 tk3 fa us na C3 hiu => ?_)
  refine wpAny_execs_cons (law_rows (A := A.deeper (envLaw w L)) hh (hrm 0 (by decide)) C3 rfl (.head _) hiu (fun k hk => fig_mem hk) (Nat.le_of_eq (fig_len ks)) fun h4 tk4 gn4 ra rv nr objs4 hb4 C4 hP4 => ?_)
  have hP4' : Paired (OptO ((ra, listOf rv.toArray nr) :: (objs4 ++ (fa, listOf us.toArray na) :: (fx, listOf fv.toArray 0) :: [(L + 1, oc)]))) rv (((figF ks).map rowF).map some) := by
    rw [List.map_map]
    exact hP4.mono fun _ _ q => q.mono fun p hp => .tail _ (List.mem_append_left _ hp)
  refine wpAny_execs_cons (law_told (A := A.deeper (envLaw w L)) hh (hrm 10 (by decide)) hA' hbig C4 rfl (.head _) hP4' (fun r hr => ?_) (by rw [List.length_map, fig_len]; exact Nat.le_refl _) fun h5 tk5 gn5 ta tv nt objs5 hb5 C5 hP5 => ?_)
  · obtain ⟨k, _, rfl⟩ := List.mem_map.mp hr
    have := row_len k; exact ar189 this
  rw [List.map_map] at hP5
  refine wpAny_execs_cons (law_check (A := A.deeper (envLaw w L)) (fa := fa) (ra := ra) (ta := ta) (fs := figF ks) hh (hrm 10 (by decide)) hun C5 rfl (.tail _ (List.mem_append_right _ (.tail _ (List.mem_append_right _ (.head _))))) hiu (fun k hk => fig_mem hk) (Nat.le_of_eq (fig_len ks)) rfl (.tail _ (List.mem_append_right _ (.head _)))
    (hP4.mono fun _ _ q => q.mono fun p hp => .tail _ (List.mem_append_right _ (.tail _ (List.mem_append_left _ hp)))) rfl (.head _) (hP5.mono fun _ _ q => q.mono fun p hp => .tail _ (List.mem_append_left _ hp)) P.told P.rows fun h6 tk6 gn6 hb6 C6 => ?_)
  have e1 : h6.get? (L + 1) = some oc := C6.get (.tail _ (List.mem_append_right _ (.tail _ (List.mem_append_right _ (.tail _ (.tail _ (.head _)))))))
  let ownK : List (Addr × Obj) := (ta, listOf tv.toArray nt) :: objs5.filter (fun p => decide (p.1 ≠ L + 1))
  have hdc' : ∀ xs n, oc.data ≠ .seq xs n := fun xs n q => by rw [hdc] at q; cases q
  have hold : ∀ p ∈ ownK, p.1 ≠ L + 1 := fun p hp => by
    rcases List.mem_cons.mp hp with rfl | hp
    · intro q
      have e2 := C6.get (a := ta) (.head _)
      rw [show ta = L + 1 from q, e1] at e2
      exact hdc' tv.toArray nt (by rw [Option.some.inj e2])
    · exact of_decide_eq_true (List.mem_filter.mp hp).2
  have C7 := C6.sub (own' := (L + 1, oc) :: ownK) fun p hp => by
    rcases List.mem_cons.mp hp with rfl | hp
    · exact .tail _ (List.mem_append_right _ (.tail _ (List.mem_append_right _ (.tail _ (.tail _ (.head _))))))
    · rcases List.mem_cons.mp hp with rfl | hp
      · exact .head _
      · exact .tail _ (List.mem_append_left _ (List.mem_filter.mp hp).1)
  refine wpAny_execs_cons (law_sheets (A := A.deeper (envLaw w L)) (ds := (figF ks).map fun k => toldF (rowF k)) hh (hrm 50 (by decide)) hun hA' hbig rfl C7 hold hdc rfl (.head _) (hP5.mono fun _ _ q => (q.filter (fun p hp => C6.get (a := p.1) (o := p.2) (.tail _ (List.mem_append_left _ hp))) e1 hdc').mono fun p hp => .tail _ hp) (by rw [List.length_map, fig_len]) P.sheet fun h8 tk8 gn8 m8 own8 hb8 C8 => ?_)
  refine wpAny_execs_cons (wpAny_Return_some (wpAny_Constant_bool ?_))
  exact hJ₀ _ _ (h h8 _ gn8 (fun b o e => C8.keep e (by simp)) (fun x => hb8 (hb6 (hb5 (hb4 x)))))
end
end Mine

namespace Mine
theorem find_cases (c : Ct) (x : Int) : (c.find? (fun e => decide (e.1 = x)) = none ∧ x ∉ c.map (·.1)) ∨ (∃ e, c.find? (fun e => decide (e.1 = x)) = some e ∧ e.1 = x ∧ e ∈ c ∧ x ∈ c.map (·.1)) := by
  cases h : c.find? (fun e => decide (e.1 = x)) with
  | none =>
    refine .inl ⟨rfl, fun q => ?_⟩
    obtain ⟨e, he, rfl⟩ := List.mem_map.mp q
    have := List.find?_eq_none.mp h e he
    simp at this
  | some e =>
    have h1 : e.1 = x := by simpa using List.find?_some h
    have h2 := List.mem_of_find?_eq_some h
    exact .inr ⟨e, rfl, h1, h2, h1 ▸ List.mem_map_of_mem h2⟩
theorem find_map {f : (Int × Int × List Int) → (Int × Int × List Int)} (hf : ∀ e, (f e).1 = e.1) (c : Ct) (x : Int) : (c.map f).find? (fun e => decide (e.1 = x)) = (c.find? (fun e => decide (e.1 = x))).map f := by
  rw [List.find?_map]
  congr 2
  funext e; simp [hf]
theorem keys_map {f : (Int × Int × List Int) → (Int × Int × List Int)} (hf : ∀ e, (f e).1 = e.1) (c : Ct) : (c.map f).map (·.1) = c.map (·.1) := by
  rw [List.map_map]; exact List.map_congr_left fun e _ => hf e
theorem ite_fst {p : Prop} [Decidable p] {a : Int × Int × List Int} {u : Int} {v : List Int} : (if p then (a.1, u, v) else a).1 = a.1 := by split <;> rfl

theorem np_setC (c : Ct) (k v x : Int) : npOf (setC c k v) x = if x = k ∧ k ∈ c.map (·.1) then v else npOf c x := by
  unfold npOf setC
  rw [find_map (fun _ => ite_fst)]
  rcases find_cases c x with ⟨h, hx⟩ | ⟨e, h, h1, h2, hx⟩
  · rw [h]
    by_cases q : x = k
    · subst q; simp [hx]
    · simp [q]
  · rw [h]
    by_cases q : x = k
    · subst q; simp [hx, h1]
    · simp [q, h1]
theorem sc_setC (c : Ct) (k v x : Int) : scOf (setC c k v) x = scOf c x := by
  unfold scOf setC
  rw [find_map (fun _ => ite_fst)]
  rcases find_cases c x with ⟨h, hx⟩ | ⟨e, h, h1, h2, hx⟩
  · rw [h]; rfl
  · rw [h]; simp only [Option.map_some, Option.getD_some]; split <;> rfl
theorem k_setC (c : Ct) (k v : Int) : (setC c k v).map (·.1) = c.map (·.1) := keys_map (fun _ => ite_fst) c
theorem np_outF (c : Ct) (rn : List Int) (x : Int) : npOf (outF c rn) x = if x ∈ rn ∧ x ∈ c.map (·.1) then -1 else npOf c x := by
  unfold npOf outF
  rw [find_map (fun _ => ite_fst)]
  rcases find_cases c x with ⟨h, hx⟩ | ⟨e, h, h1, h2, hx⟩
  · rw [h]; simp [hx]
  · rw [h]
    by_cases q : x ∈ rn
    · simp [q, hx, h1]
    · simp [q, h1]
theorem sc_outF (c : Ct) (rn : List Int) (x : Int) : scOf (outF c rn) x = scOf c x := by
  unfold scOf outF
  rw [find_map (fun _ => ite_fst)]
  rcases find_cases c x with ⟨h, hx⟩ | ⟨e, h, h1, h2, hx⟩
  · rw [h]; rfl
  · rw [h]; simp only [Option.map_some, Option.getD_some]; split <;> rfl
theorem k_outF (c : Ct) (rn : List Int) : (outF c rn).map (·.1) = c.map (·.1) := keys_map (fun _ => ite_fst) c
theorem np_bump (c : Ct) (k v x : Int) : npOf (bump c k v) x = if x = k ∧ k ∈ c.map (·.1) then npOf c x + v else npOf c x := by
  unfold npOf bump
  rw [find_map (fun _ => ite_fst)]
  rcases find_cases c x with ⟨h, hx⟩ | ⟨e, h, h1, h2, hx⟩
  · rw [h]
    by_cases q : x = k
    · subst q; simp [hx]
    · simp [q]
  · rw [h]
    by_cases q : x = k
    · subst q; simp [hx, h1]
    · simp [q, h1]
theorem sc_bump (c : Ct) (k v x : Int) : scOf (bump c k v) x = scOf c x := by
  unfold scOf bump
  rw [find_map (fun _ => ite_fst)]
  rcases find_cases c x with ⟨h, hx⟩ | ⟨e, h, h1, h2, hx⟩
  · rw [h]; rfl
  · rw [h]; simp only [Option.map_some, Option.getD_some]; split <;> rfl
theorem k_bump (c : Ct) (k v : Int) : (bump c k v).map (·.1) = c.map (·.1) := keys_map (fun _ => ite_fst) c
theorem np_app1 (c : Ct) (p k x : Int) : npOf (app1 c p k) x = npOf c x := by
  unfold npOf app1
  rw [find_map (fun _ => ite_fst)]
  rcases find_cases c x with ⟨h, hx⟩ | ⟨e, h, h1, h2, hx⟩
  · rw [h]; rfl
  · rw [h]; simp only [Option.map_some, Option.getD_some]; split <;> rfl
theorem sc_app1 (c : Ct) (p k x : Int) : scOf (app1 c p k) x = if x = p ∧ p ∈ c.map (·.1) then scOf c x ++ [k] else scOf c x := by
  unfold scOf app1
  rw [find_map (fun _ => ite_fst)]
  rcases find_cases c x with ⟨h, hx⟩ | ⟨e, h, h1, h2, hx⟩
  · rw [h]
    by_cases q : x = p
    · subst q; simp [hx]
    · simp [q]
  · rw [h]
    by_cases q : x = p
    · subst q; simp [hx, h1]
    · simp [q, h1]
theorem k_app1 (c : Ct) (k v : Int) : (app1 c k v).map (·.1) = c.map (·.1) := keys_map (fun _ => ite_fst) c
theorem any_iff (c : Ct) (k : Int) : c.any (fun e => decide (e.1 = k)) = true ↔ k ∈ c.map (·.1) := by
  rw [List.any_eq_true, List.mem_map]
  constructor
  · rintro ⟨e, he, h⟩; exact ⟨e, he, by simpa using h⟩
  · rintro ⟨e, he, h⟩; exact ⟨e, he, by simpa using h⟩
theorem k_ensure (c : Ct) (k x : Int) : x ∈ (ensure c k).map (·.1) ↔ x ∈ c.map (·.1) ∨ x = k := by
  unfold ensure
  split
  · rename_i h
    have := (any_iff c k).mp h
    constructor
    · exact .inl
    · rintro (h | rfl)
      · exact h
      · exact this
  · rw [List.map_append, List.mem_append]; simp
theorem nd_ensure {c : Ct} (k : Int) (h : (c.map (·.1)).Nodup) : ((ensure c k).map (·.1)).Nodup := by
  unfold ensure
  split
  · exact h
  · rename_i q
    have q' : k ∉ c.map (·.1) := fun z => q ((any_iff c k).mpr z)
    rw [List.map_append, List.nodup_append]
    refine ⟨h, by simp, fun a ha b hb e => ?_⟩
    have : b = k := by simpa using hb
    subst e; subst this; exact q' ha
theorem find_ensure (c : Ct) (k x : Int) : (ensure c k).find? (fun e => decide (e.1 = x)) = c.find? (fun e => decide (e.1 = x)) ∨ (c.find? (fun e => decide (e.1 = x)) = none ∧ (ensure c k).find? (fun e => decide (e.1 = x)) = some (k, 0, [])) := by
  unfold ensure
  split
  · exact .inl rfl
  · rw [List.find?_append]
    cases h : c.find? (fun e => decide (e.1 = x)) with
    | some e => exact .inl rfl
    | none =>
      by_cases q : k = x
      · refine .inr ⟨rfl, ?_⟩; simp [q]
      · refine .inl ?_; simp [q]
theorem np_ensure (c : Ct) (k x : Int) : npOf (ensure c k) x = npOf c x := by
  unfold npOf
  rcases find_ensure c k x with h | ⟨h1, h2⟩
  · rw [h]
  · rw [h1, h2]; rfl
theorem sc_ensure (c : Ct) (k x : Int) : scOf (ensure c k) x = scOf c x := by
  unfold scOf
  rcases find_ensure c k x with h | ⟨h1, h2⟩
  · rw [h]
  · rw [h1, h2]; rfl

/-- addF told -/
structure Adds (c c' : Ct) (k : Int) (n : Nat) (ps : List Int) : Prop where
  mem : ∀ x, x ∈ c'.map (·.1) ↔ x ∈ c.map (·.1) ∨ x ∈ ps
  nd : (c.map (·.1)).Nodup → (c'.map (·.1)).Nodup
  np : ∀ x, npOf c' x = npOf c x
  sc : ∀ x s, (scOf c' x).count s = (scOf c x).count s + if s = k then ps.count x else 0
theorem apps (k : Int) : ∀ (ps : List Int) (c : Ct), Adds c (ps.foldl (fun c p => app1 (ensure c p) p k) c) k 0 ps := by
  intro ps
  induction ps with
  | nil => intro c; exact ⟨fun x => by simp, fun h => h, fun _ => rfl, fun _ _ => by simp⟩
  | cons p ps ih =>
    intro c
    rw [List.foldl_cons]
    obtain ⟨h1, h2, h3, h4⟩ := ih (app1 (ensure c p) p k)
    refine ⟨fun x => ?_, fun h => h2 ?_, fun x => ?_, fun x s => ?_⟩
    · rw [h1, k_app1, k_ensure, List.mem_cons, or_assoc]
    · rw [k_app1]; exact nd_ensure p h
    · rw [h3, np_app1, np_ensure]
    · rw [h4, sc_app1, List.count_cons]
      have hp : p ∈ (ensure c p).map (·.1) := (k_ensure c p p).mpr (.inr rfl)
      by_cases q : x = p
      · subst q
        rw [if_pos ⟨rfl, hp⟩, List.count_append, sc_ensure, List.count_singleton]
        by_cases r : s = k
        · subst r; simp; exact ar207
        · have r' : ¬ k = s := fun e => r e.symm
          simp [r, r']
      · rw [if_neg (fun z => q z.1), sc_ensure]
        have q' : ¬ p = x := fun e => q e.symm
        simp [q']
theorem addF_mem (c : Ct) (k : Int) (ps : List Int) (x : Int) : x ∈ (addF c k ps).map (·.1) ↔ x ∈ c.map (·.1) ∨ x = k ∨ x ∈ ps := by
  unfold addF
  rw [(apps k ps _).mem, k_bump, k_ensure, or_assoc]
theorem addF_nd {c : Ct} (k : Int) (ps : List Int) (h : (c.map (·.1)).Nodup) : ((addF c k ps).map (·.1)).Nodup := by
  unfold addF
  refine (apps k ps _).nd ?_
  rw [k_bump]; exact nd_ensure k h
theorem addF_np (c : Ct) (k : Int) (ps : List Int) (x : Int) : npOf (addF c k ps) x = npOf c x + if x = k then (ps.length : Int) else 0 := by
  unfold addF
  rw [(apps k ps _).np, np_bump, np_ensure]
  have : k ∈ (ensure c k).map (·.1) := (k_ensure c k k).mpr (.inr rfl)
  by_cases q : x = k
  · subst q; rw [if_pos ⟨rfl, this⟩, if_pos rfl]
  · rw [if_neg (fun z => q z.1), if_neg q]; simp
theorem addF_sc (c : Ct) (k : Int) (ps : List Int) (x s : Int) : (scOf (addF c k ps) x).count s = (scOf c x).count s + if s = k then ps.count x else 0 := by
  unfold addF
  rw [(apps k ps _).sc, sc_bump, sc_ensure]

def graphN (nd : Int → List Int) (i : Nat) : Ct := (List.range i).foldl (fun c (j : Nat) => addF c (11 - (j : Int)) (nd (11 - (j : Int)))) []
theorem graphN_succ (nd : Int → List Int) (i : Nat) : graphN nd (i + 1) = addF (graphN nd i) (11 - (i : Int)) (nd (11 - (i : Int))) := by
  unfold graphN; rw [List.range_succ, List.foldl_append]; rfl
section
variable {nd : Int → List Int} (hnd : ∀ p, 0 ≤ p → ∀ a ∈ nd p, 0 ≤ a ∧ a < p)
theorem graph_nd : ∀ i, ((graphN nd i).map (·.1)).Nodup
  | 0 => by simp [graphN]
  | i + 1 => by rw [graphN_succ]; exact addF_nd _ _ (graph_nd i)
theorem graph_np : ∀ (i : Nat) (x : Int), npOf (graphN nd i) x = if 11 - (i : Int) < x ∧ x ≤ 11 then ((nd x).length : Int) else 0
  | 0, x => by
    rw [if_neg (by exact ar208)]
    first | done | rfl
  | i + 1, x => by
    rw [graphN_succ, addF_np, graph_np i x]
    by_cases q : x = 11 - (i : Int)
    · subst q; rw [if_neg (by exact ar209), if_pos rfl, if_pos (by exact ar210)]; simp
    · rw [if_neg q]
      by_cases r : 11 - (i : Int) < x ∧ x ≤ 11
      · rw [if_pos r, if_pos (by exact ar211 r)]; simp
      · rw [if_neg r, if_neg (by exact ar212 q r)]; simp
theorem graph_sc : ∀ (i : Nat) (x s : Int), (scOf (graphN nd i) x).count s = if 11 - (i : Int) < s ∧ s ≤ 11 then (nd s).count x else 0
  | 0, x, s => by
    rw [if_neg (by exact ar208)]
    first | done | rfl
  | i + 1, x, s => by
    rw [graphN_succ, addF_sc, graph_sc i x s]
    by_cases q : s = 11 - (i : Int)
    · subst q; rw [if_neg (by exact ar209), if_pos rfl, if_pos (by exact ar210)]; simp
    · rw [if_neg q]
      by_cases r : 11 - (i : Int) < s ∧ s ≤ 11
      · rw [if_pos r, if_pos (by exact ar211 r)]; simp
      · rw [if_neg r, if_neg (by exact ar212 q r)]
include hnd in
theorem graph_mem : ∀ (i : Nat) (x : Int), i ≤ 12 → ((11 - (i : Int) < x ∧ x ≤ 11) → x ∈ (graphN nd i).map (·.1)) ∧ (x ∈ (graphN nd i).map (·.1) → 0 ≤ x ∧ x ≤ 11)
  | 0, x, _ => ⟨fun h => by omega, fun h => by simp [graphN] at h⟩
  | i + 1, x, hi => by
    obtain ⟨h1, h2⟩ := graph_mem i x (by exact ar213 hi)
    rw [graphN_succ]
    refine ⟨fun h => ?_, fun h => ?_⟩
    · rw [addF_mem]
      by_cases q : x = 11 - (i : Int)
      · exact .inr (.inl q)
      · exact .inl (h1 (by exact ar214 h q))
    · rw [addF_mem] at h
      rcases h with h | h | h
      · exact h2 h
      · exact ar215 hi h
      · have := hnd _ (by exact ar216 hi) x h; exact ar217 this
end
/-- a run of decrements -/
theorem fold_dec : ∀ (T : List Int) (c : Ct) (r : List Int), (∀ p ∈ T, p ∈ c.map (·.1)) → (∀ p ∈ T, (T.count p : Int) ≤ npOf c p) → (∀ p ∈ T, p ∉ r) →
    ∃ h, (T.foldl dec1 (c, r)).2 = r ++ h ∧ h.Nodup ∧ (∀ p, p ∈ h ↔ p ∈ T ∧ npOf c p = T.count p) ∧ (∀ x, npOf (T.foldl dec1 (c, r)).1 x = npOf c x - T.count x) ∧ (∀ x, scOf (T.foldl dec1 (c, r)).1 x = scOf c x) ∧ (T.foldl dec1 (c, r)).1.map (·.1) = c.map (·.1)
  | [], c, r, _, _, _ => ⟨[], by simp, by simp, by simp, by simp, by simp, by simp⟩
  | p :: T, c, r, hk, hc, hr => by
    rw [List.foldl_cons]
    have hpk := hk p (.head _)
    have hcp := hc p (.head _)
    have e1 : (p :: T).count p = T.count p + 1 := by simp
    have np1 : ∀ x, npOf (setC c p (npOf c p - 1)) x = if x = p then npOf c p - 1 else npOf c x := fun x => by
      rw [np_setC]
      by_cases q : x = p
      · rw [if_pos ⟨q, hpk⟩, if_pos q]
      · rw [if_neg (fun z => q z.1), if_neg q]
    have cnt : ∀ x, x ≠ p → (p :: T).count x = T.count x := fun x hx => by
      exact List.count_cons_of_ne (fun e => hx e.symm)
    have hk' : ∀ x ∈ T, x ∈ (setC c p (npOf c p - 1)).map (·.1) := fun x hx => by rw [k_setC]; exact hk x (.tail _ hx)
    have hc' : ∀ x ∈ T, (T.count x : Int) ≤ npOf (setC c p (npOf c p - 1)) x := fun x hx => by
      rw [np1]
      by_cases q : x = p
      · rw [if_pos q, q]; exact ar218 hcp e1
      · rw [if_neg q, ← cnt x q]; exact hc x (.tail _ hx)
    by_cases z : npOf c p - 1 = 0
    · have ed : dec1 (c, r) p = (setC c p (npOf c p - 1), r ++ [p]) := by simp only [dec1, if_pos z]
      rw [ed]
      have pT : p ∉ T := fun q => by
        have := List.count_pos_iff.mpr q
        exact ar219 hcp e1 z this
      obtain ⟨h, a1, a2, a3, a4, a5, a6⟩ := fold_dec T (setC c p (npOf c p - 1)) (r ++ [p]) hk' hc' (fun x hx => by
        rw [List.mem_append]
        rintro (q | q)
        · exact hr x (.tail _ hx) q
        · rcases List.mem_singleton.mp q with rfl; exact pT hx)
      have ct0 : T.count p = 0 := List.count_eq_zero.mpr pT
      refine ⟨p :: h, ?_, ?_, fun x => ?_, fun x => ?_, fun x => ?_, ?_⟩
      · rw [a1]; simp
      · rw [List.nodup_cons]; exact ⟨fun q => pT ((a3 p).mp q).1, a2⟩
      · rw [List.mem_cons, a3, np1]
        by_cases q : x = p
        · subst q
          simp only [true_or, true_iff]
          exact ⟨.head _, by rw [e1]; exact ar220 hcp e1 z⟩
        · rw [if_neg q, ← cnt x q]
          constructor
          · rintro (e | ⟨e1, e2⟩)
            · exact absurd e q
            · exact ⟨.tail _ e1, e2⟩
          · rintro ⟨e1, e2⟩
            exact .inr ⟨(List.mem_cons.mp e1).resolve_left q, e2⟩
      · rw [a4, np1]
        by_cases q : x = p
        · subst q; rw [if_pos rfl, e1]; exact ar221
        · rw [if_neg q, cnt x q]
      · rw [a5, sc_setC]
      · rw [a6, k_setC]
    · have ed : dec1 (c, r) p = (setC c p (npOf c p - 1), r) := by simp only [dec1, if_neg z]
      rw [ed]
      obtain ⟨h, a1, a2, a3, a4, a5, a6⟩ := fold_dec T (setC c p (npOf c p - 1)) r hk' hc' (fun x hx => hr x (.tail _ hx))
      refine ⟨h, ?_, a2, fun x => ?_, fun x => ?_, fun x => ?_, ?_⟩
      · rw [a1]
      · rw [a3, np1]
        by_cases q : x = p
        · subst q
          rw [if_pos rfl, e1]
          constructor
          · rintro ⟨b1, b2⟩; exact ⟨.head _, by exact ar222 b2⟩
          · rintro ⟨b1, b2⟩
            have : 0 < T.count x := by exact ar223 z b2
            exact ⟨List.count_pos_iff.mp this, by exact ar224 b2⟩
        · rw [if_neg q, ← cnt x q]
          constructor
          · rintro ⟨b1, b2⟩; exact ⟨.tail _ b1, b2⟩
          · rintro ⟨b1, b2⟩; exact ⟨(List.mem_cons.mp b1).resolve_left q, b2⟩
      · rw [a4, np1]
        by_cases q : x = p
        · subst q; rw [if_pos rfl, e1]; exact ar221
        · rw [if_neg q, cnt x q]
      · rw [a5, sc_setC]
      · rw [a6, k_setC]
structure Gr (K : List Int) (nd sc0 : Int → List Int) : Prop where
  knd : K.Nodup
  pos : ∀ k ∈ K, 0 ≤ k
  cnt : ∀ k s, s ∈ K → (sc0 k).count s = (nd s).count k
  scK : ∀ k, ∀ s ∈ sc0 k, s ∈ K
  ndK : ∀ s ∈ K, ∀ a ∈ nd s, a ∈ K ∧ a < s
  scl : ∀ k, (sc0 k).length ≤ 100
  kl : K.length ≤ 100
structure Mid (K : List Int) (nd sc0 : Int → List Int) (c : Ct) (r P todo : List Int) : Prop where
  keys : c.map (·.1) = K
  sc : ∀ k, scOf c k = sc0 k
  out : ∀ k ∈ todo, npOf c k = -1
  rest : ∀ k ∈ K, k ∉ P → k ∉ todo → npOf c k = ((nd k).filter (fun a => decide (a ∉ P))).length
  rnd : r.Nodup
  rm : ∀ k, k ∈ r ↔ k ∈ K ∧ k ∉ P ∧ k ∉ todo ∧ ∀ a ∈ nd k, a ∈ P
section
variable {K : List Int} {nd sc0 : Int → List Int}
theorem filter_cons_len (l P : List Int) (k : Int) (hk : k ∉ P) : (l.filter (fun a => decide (a ∉ P))).length = (l.filter (fun a => decide (a ∉ k :: P))).length + l.count k := by
  induction l with
  | nil => rfl
  | cons a l ih =>
    rw [List.filter_cons, List.filter_cons, List.count_cons]
    by_cases q : a = k
    · subst q; simp [hk]; simp at ih; exact ar225 ih
    · by_cases z : a ∈ P
      · simp [z, q]; simp at ih; exact ar226 ih
      · simp [z, q]; simp at ih; exact ar227 ih
theorem mid_step (G : Gr K nd sc0) {c : Ct} {r P todo : List Int} {k : Int} (M : Mid K nd sc0 c r P (k :: todo)) (hP : ∀ s ∈ P, s ∈ K → ∀ a ∈ nd s, a ∈ P) (hk : k ∈ K) (hkP : k ∉ P) (hkt : k ∉ todo) (htP : ∀ s ∈ todo, s ∉ P) (htK : ∀ s ∈ todo, s ∈ K) (hn : ∀ s ∈ k :: todo, ∀ a ∈ nd s, a ∈ P) :
    Mid K nd sc0 (done1 (c, r) k).1 (done1 (c, r) k).2 (k :: P) todo := by
  obtain ⟨m1, m2, m3, m4, m5, m6⟩ := M
  have np1 : ∀ x, x ≠ k → npOf (setC c k (-2)) x = npOf c x := fun x hx => by rw [np_setC, if_neg (fun z => hx z.1)]
  have inT : ∀ s ∈ sc0 k, s ∈ K ∧ k ∈ nd s ∧ s ≠ k ∧ s ∉ P ∧ s ∉ todo := fun s hs => by
    have h1 := G.scK k s hs
    have h2 : 0 < (sc0 k).count s := List.count_pos_iff.mpr hs
    rw [G.cnt k s h1] at h2
    have h3 := List.count_pos_iff.mp h2
    refine ⟨h1, h3, fun e => ?_, fun e => hkP (hP s e h1 k h3), fun e => hkP (hn s (.tail _ e) k h3)⟩
    have := (G.ndK s h1 k h3).2
    exact ar228 e this
  have npT : ∀ s ∈ sc0 k, npOf (setC c k (-2)) s = (((nd s).filter (fun a => decide (a ∉ k :: P))).length : Int) + (sc0 k).count s := fun s hs => by
    obtain ⟨a1, a2, a3, a4, a5⟩ := inT s hs
    rw [np1 s a3, m4 s a1 a4 (fun q => (List.mem_cons.mp q).elim a3 a5), filter_cons_len _ _ k hkP, G.cnt k s a1]
    exact ar229
  obtain ⟨h, b1, b2, b3, b4, b5, b6⟩ := fold_dec (sc0 k) (setC c k (-2)) r (fun s hs => by rw [k_setC, m1]; exact (inT s hs).1) (fun s hs => by rw [npT s hs]; exact ar230) (fun s hs q => by
    obtain ⟨a1, a2, a3, a4, a5⟩ := inT s hs
    exact hkP (((m6 s).mp q).2.2.2 k a2))
  have ed : done1 (c, r) k = (sc0 k).foldl dec1 (setC c k (-2), r) := by show (scOf c k).foldl dec1 _ = _; rw [m2]
  rw [ed]
  refine ⟨by rw [b6, k_setC, m1], fun x => by rw [b5, sc_setC, m2], fun x hx => ?_, fun x hx hxP hxt => ?_, ?_, fun x => ?_⟩
  · have x0 : (sc0 k).count x = 0 := List.count_eq_zero.mpr fun q => (inT x q).2.2.2.2 hx
    rw [b4, x0, np1 x (fun e => hkt (e ▸ hx)), m3 x (.tail _ hx)]; rfl
  · simp only [List.mem_cons, not_or] at hxP
    rw [b4, np1 x hxP.1, m4 x hx hxP.2 (fun q => (List.mem_cons.mp q).elim hxP.1 hxt), filter_cons_len _ _ k hkP, G.cnt k x hx]
    exact ar231
  · rw [b1, List.nodup_append]
    refine ⟨m5, b2, fun a ha b hb e => ?_⟩
    subst e
    obtain ⟨a1, a2, a3, a4, a5⟩ := inT a ((b3 a).mp hb).1
    exact hkP (((m6 a).mp ha).2.2.2 k a2)
  · rw [b1, List.mem_append, m6, b3]
    constructor
    · rintro (⟨c1, c2, c3, c4⟩ | ⟨c1, c2⟩)
      · simp only [List.mem_cons, not_or] at c3
        refine ⟨c1, ?_, c3.2, fun a ha => .tail _ (c4 a ha)⟩
        simp only [List.mem_cons, not_or]; exact ⟨c3.1, c2⟩
      · obtain ⟨a1, a2, a3, a4, a5⟩ := inT x c1
        rw [npT x c1] at c2
        have : ((nd x).filter (fun a => decide (a ∉ k :: P))).length = 0 := by exact ar232 c2
        have := List.filter_eq_nil_iff.mp (List.eq_nil_of_length_eq_zero this)
        refine ⟨a1, by simp only [List.mem_cons, not_or]; exact ⟨a3, a4⟩, a5, fun a ha => ?_⟩
        have := this a ha
        exact Classical.byContradiction fun q => this (by simpa using q)
    · rintro ⟨c1, c2, c3, c4⟩
      simp only [List.mem_cons, not_or] at c2
      by_cases q : k ∈ nd x
      · have : 0 < (nd x).count k := List.count_pos_iff.mpr q
        rw [← G.cnt k x c1] at this
        have hx := List.count_pos_iff.mp this
        refine .inr ⟨hx, ?_⟩
        rw [npT x hx]
        have : (nd x).filter (fun a => decide (a ∉ k :: P)) = [] := List.filter_eq_nil_iff.mpr fun a ha z => (of_decide_eq_true z) (c4 a ha)
        rw [this]; simp
      · refine .inl ⟨c1, c2.2, ?_, fun a ha => (List.mem_cons.mp (c4 a ha)).resolve_left fun e => q (e ▸ ha)⟩
        simp only [List.mem_cons, not_or]; exact ⟨c2.1, c3⟩
theorem mid_fold (G : Gr K nd sc0) : ∀ (todo : List Int) (c : Ct) (r P : List Int), Mid K nd sc0 c r P todo → (∀ s ∈ P, s ∈ K → ∀ a ∈ nd s, a ∈ P) → todo.Nodup → (∀ s ∈ todo, s ∉ P) → (∀ s ∈ todo, s ∈ K) → (∀ s ∈ todo, ∀ a ∈ nd s, a ∈ P) →
    DoneOk (c, r) todo ∧ Mid K nd sc0 (todo.foldl done1 (c, r)).1 (todo.foldl done1 (c, r)).2 (todo.reverse ++ P) []
  | [], c, r, P, M, _, _, _, _, _ => ⟨trivial, M⟩
  | k :: todo, c, r, P, M, hP, hnd, htP, htK, hn => by
    obtain ⟨n1, n2⟩ := List.nodup_cons.mp hnd
    have M' := mid_step G M hP (htK k (.head _)) (htP k (.head _)) n1 (fun s hs => htP s (.tail _ hs)) (fun s hs => htK s (.tail _ hs)) hn
    obtain ⟨d, m⟩ := mid_fold G todo _ _ _ M' (fun s hs hK a ha => by
        rcases List.mem_cons.mp hs with rfl | hs
        · exact .tail _ (hn s (.head _) a ha)
        · exact .tail _ (hP s hs hK a ha)) n2 (fun s hs q => (List.mem_cons.mp q).elim (fun e => n1 (e ▸ hs)) (htP s (.tail _ hs))) (fun s hs => htK s (.tail _ hs)) (fun s hs a ha => .tail _ (hn s (.tail _ hs) a ha))
    refine ⟨⟨M.out k (.head _), by rw [M.keys]; exact htK k (.head _), fun p hp => by rw [M.keys]; rw [M.sc] at hp; exact G.scK k p hp, d⟩, ?_⟩
    rw [List.foldl_cons, List.reverse_cons, List.append_assoc]
    exact m
theorem mid_out (G : Gr K nd sc0) {c : Ct} {r P : List Int} (M : Mid K nd sc0 c r P []) : Mid K nd sc0 (outF c r) [] P r := by
  obtain ⟨m1, m2, m3, m4, m5, m6⟩ := M
  refine ⟨by rw [k_outF, m1], fun k => by rw [sc_outF, m2], fun k hk => ?_, fun k hk hkP hkr => ?_, .nil, fun k => ?_⟩
  · rw [np_outF, if_pos ⟨hk, by rw [m1]; exact ((m6 k).mp hk).1⟩]
  · rw [np_outF, if_neg (fun z => hkr z.1)]; exact m4 k hk hkP (by simp)
  · constructor
    · intro q; cases q
    · rintro ⟨c1, c2, c3, c4⟩
      exact absurd ((m6 k).mpr ⟨c1, c2, by simp, c4⟩) c3
theorem find_self : ∀ {c : Ct}, (c.map (·.1)).Nodup → ∀ e ∈ c, c.find? (fun x => decide (x.1 = e.1)) = some e
  | a :: c, hn, e, he => by
    rw [List.map_cons, List.nodup_cons] at hn
    rw [List.find?_cons]
    rcases List.mem_cons.mp he with rfl | he
    · simp
    · have : a.1 ≠ e.1 := fun q => hn.1 (q ▸ List.mem_map_of_mem he)
      rw [show decide (a.1 = e.1) = false by simp [this]]
      exact find_self hn.2 e he
theorem sc_self {c : Ct} (hn : (c.map (·.1)).Nodup) (e : Int × Int × List Int) (he : e ∈ c) : scOf c e.1 = e.2.2 := by
  unfold scOf; rw [find_self hn e he]; rfl
theorem np_self {c : Ct} (hn : (c.map (·.1)).Nodup) (e : Int × Int × List Int) (he : e ∈ c) : npOf c e.1 = e.2.1 := by
  unfold npOf; rw [find_self hn e he]; rfl
theorem sc_len {c : Ct} (hn : (c.map (·.1)).Nodup) (h : ∀ k, (scOf c k).length ≤ 100) : ∀ e ∈ c, e.2.2.length ≤ 100 := fun e he => by
  rw [← sc_self hn e he]; exact h e.1
theorem run_ex (G : Gr K nd sc0) {lev : Int → Int} (hlev : ∀ k ∈ K, ∀ t, 0 ≤ t → (lev k ≤ t ↔ ∀ a ∈ nd k, lev a < t)) (hl0 : ∀ k ∈ K, 0 ≤ lev k) : ∀ (n : Nat) (t : Int) (c : Ct) (r P : List Int), (K.filter (fun k => decide (k ∉ P))).length ≤ n → 0 ≤ t → Mid K nd sc0 c r P [] → (∀ k, k ∈ P ↔ k ∈ K ∧ lev k < t) →
    ∃ gs, Run c r gs ∧ gs.flatten.Nodup ∧ (∀ k, k ∈ gs.flatten ↔ k ∈ K ∧ k ∉ P) ∧ gs.flatten.Pairwise (fun a b => lev a ≤ lev b)
  | n, t, c, r, P, hm, ht, M, hPt => by
    have rl : ∀ k, k ∈ r ↔ k ∈ K ∧ lev k = t := fun k => by
      rw [M.rm]
      constructor
      · rintro ⟨a1, a2, _, a4⟩
        have h1 : lev k ≤ t := (hlev k a1 t ht).mpr fun a ha => ((hPt a).mp (a4 a ha)).2
        have h2 : ¬ lev k < t := fun q => a2 ((hPt k).mpr ⟨a1, q⟩)
        exact ⟨a1, by exact ar233 h1 h2⟩
      · rintro ⟨a1, a2⟩
        refine ⟨a1, fun q => ?_, by simp, fun a ha => (hPt a).mpr ⟨(G.ndK k a1 a ha).1, (hlev k a1 t ht).mp (by exact ar234 a2) a ha⟩⟩
        have := ((hPt k).mp q).2; exact ar235 a2 this
    cases r with
    | nil =>
      refine ⟨[], .stop, by simp, fun k => ?_, by simp⟩
      simp only [List.flatten_nil, List.not_mem_nil, false_iff, not_and, Classical.not_not]
      have : ∀ (m : Nat) (k : Int), k.toNat < m → k ∈ K → k ∈ P := by
        intro m
        induction m with
        | zero => intro k h; omega
        | succ m ih =>
          intro k h hk
          refine Classical.byContradiction fun q => ?_
          have : k ∈ ([] : List Int) := (M.rm k).mpr ⟨hk, q, by simp, fun a ha => by
            obtain ⟨a1, a2⟩ := G.ndK k hk a ha
            have := G.pos a a1
            exact ih a (by exact ar236 h a2 this) a1⟩
          cases this
      exact fun hk => this (k.toNat + 1) k (Nat.lt_succ_self _) hk
    | cons k0 r0 =>
      have k0r := (rl k0).mp (.head _)
      have k0P : k0 ∉ P := ((M.rm k0).mp (.head _)).2.1
      obtain ⟨n', rfl⟩ : ∃ n', n = n' + 1 := by
        cases n with
        | zero =>
          have := List.filter_eq_nil_iff.mp (List.eq_nil_of_length_eq_zero (Nat.le_zero.mp hm)) k0 k0r.1
          simp [k0P] at this
        | succ n => exact ⟨n, rfl⟩
      have hPc : ∀ s ∈ P, s ∈ K → ∀ a ∈ nd s, a ∈ P := fun s hs hK a ha => by
        have h1 := ((hPt s).mp hs).2
        have h2 := hl0 s hK
        obtain ⟨a1, _⟩ := G.ndK s hK a ha
        exact (hPt a).mpr ⟨a1, by have := (hlev s hK (lev s) h2).mp (Int.le_refl _) a ha; omega⟩
      have rK : ∀ s ∈ k0 :: r0, s ∈ K := fun s hs => ((rl s).mp hs).1
      obtain ⟨d, M'⟩ := mid_fold G (k0 :: r0) _ [] P (mid_out G M) hPc M.rnd (fun s hs => ((M.rm s).mp hs).2.1) rK (fun s hs => ((M.rm s).mp hs).2.2.2)
      have P' : ∀ k, k ∈ (k0 :: r0).reverse ++ P ↔ k ∈ K ∧ lev k < t + 1 := fun k => by
        rw [List.mem_append, List.mem_reverse, rl, hPt]
        constructor
        · rintro (⟨a1, a2⟩ | ⟨a1, a2⟩) <;> exact ⟨a1, by omega⟩
        · rintro ⟨a1, a2⟩
          by_cases q : lev k = t
          · exact .inl ⟨a1, q⟩
          · exact .inr ⟨a1, by omega⟩
      have less : (K.filter (fun k => decide (k ∉ (k0 :: r0).reverse ++ P))).length ≤ n' := by
        have h1 : (K.filter (fun k => decide (k ∉ (k0 :: r0).reverse ++ P))) = (K.filter (fun k => decide (k ∉ P))).filter (fun k => decide (k ∉ (k0 :: r0))) := by
          rw [List.filter_filter]
          refine List.filter_congr fun x _ => ?_
          rw [← Bool.decide_and]
          simp only [decide_eq_decide, List.mem_append, List.mem_reverse, not_or]
        rw [h1]
        have h2 : ((K.filter (fun k => decide (k ∉ P))).filter (fun k => decide (k ∉ (k0 :: r0)))).length < (K.filter (fun k => decide (k ∉ P))).length := by
          have h3 := List.length_filter_le (fun k => decide (k ∉ (k0 :: r0))) (K.filter (fun k => decide (k ∉ P)))
          have h4 : ((K.filter (fun k => decide (k ∉ P))).filter (fun k => decide (k ∉ (k0 :: r0)))).length ≠ (K.filter (fun k => decide (k ∉ P))).length := fun e => by
            have := List.length_filter_eq_length_iff.mp e k0 (List.mem_filter.mpr ⟨k0r.1, by simp [k0P]⟩)
            simp at this
          exact ar237 h3 h4
        exact ar238 hm h2
      obtain ⟨gs, g1, g2, g3, g4⟩ := run_ex G hlev hl0 n' (t + 1) _ _ _ less (by omega) M' P'
      have rlen : (k0 :: r0).length ≤ 100 := by
        have : (k0 :: r0).length ≤ K.length := by
          have := M.rnd
          exact List.Nodup.length_le_of_subset this (fun s hs => rK s hs)
        have := G.kl; omega
      have g3' : ∀ k, k ∈ gs.flatten ↔ k ∈ K ∧ t + 1 ≤ lev k := fun k => by
        rw [g3, P']
        constructor
        · rintro ⟨a1, a2⟩; refine ⟨a1, ?_⟩; have : ¬ lev k < t + 1 := fun q => a2 ⟨a1, q⟩; omega
        · rintro ⟨a1, a2⟩; exact ⟨a1, fun q => by omega⟩
      refine ⟨(k0 :: r0) :: gs, .step (by simp) rlen (fun k hk => by rw [M.keys]; exact rK k hk) (sc_len (by rw [M.keys]; exact G.knd) fun k => by rw [M.sc]; exact G.scl k) d g1, ?_, fun k => ?_, ?_⟩
      · rw [List.flatten_cons, List.nodup_append]
        refine ⟨M.rnd, g2, fun a ha b hb e => ?_⟩
        subst e
        have := ((rl a).mp ha).2
        have := ((g3' a).mp hb).2
        omega
      · rw [List.flatten_cons, List.mem_append, g3', rl, hPt]
        constructor
        · rintro (⟨a1, a2⟩ | ⟨a1, a2⟩) <;> exact ⟨a1, fun q => by omega⟩
        · rintro ⟨a1, a2⟩
          have : ¬ lev k < t := fun q => a2 ⟨a1, q⟩
          by_cases q : lev k = t
          · exact .inl ⟨a1, q⟩
          · exact .inr ⟨a1, by omega⟩
      · rw [List.flatten_cons, List.pairwise_append]
        refine ⟨?_, g4, fun a ha b hb => ?_⟩
        · have : ∀ l : List Int, (∀ a ∈ l, lev a = t) → l.Pairwise (fun a b => lev a ≤ lev b) := by
            intro l
            induction l with
            | nil => intro _; exact .nil
            | cons a l ih =>
              intro h
              refine .cons (fun b hb => ?_) (ih fun b hb => h b (.tail _ hb))
              have := h a (.head _); have := h b (.tail _ hb); omega
          exact this _ fun a ha => ((rl a).mp ha).2
        · have := ((rl a).mp ha).2
          have := ((g3' b).mp hb).2
          omega
end
end Mine

namespace Mine
section
variable {fo so : Option (List Int)}
theorem graphN_eq (fo so : Option (List Int)) : graphOf fo so = graphN (needsF fo so) 12 := rfl
theorem lens_get (fo so : Option (List Int)) : ∀ (i j : Nat), j < i → (lensTo fo so i).getD j 0 = lenAt (lensTo fo so j) (needsF fo so (j : Nat))
  | 0, j, h => by exact ar245 h
  | i + 1, j, h => by
    show (lensTo fo so i ++ [lenAt (lensTo fo so i) (needsF fo so (i : Nat))]).getD j 0 = _
    by_cases q : j < i
    · rw [← lens_get fo so i j q]
      simp only [List.getD_eq_getElem?_getD]
      rw [List.getElem?_append_left (by rw [lens_length]; exact q)]
    · have : j = i := by exact ar246 h q
      subst this
      simp only [List.getD_eq_getElem?_getD]
      rw [List.getElem?_append_right (by rw [lens_length]; exact Nat.le_refl _), lens_length, Nat.sub_self]; rfl
abbrev lev (fo so : Option (List Int)) (k : Int) : Int := (lensOf fo so).getD k.toNat 0
theorem lev_le (hf : ∀ ks, fo = some ks → 0 ∈ ks) {k : Int} (h0 : 0 ≤ k) (h1 : k ≤ 11) (t : Int) : lev fo so k ≤ t ↔ 0 ≤ t ∧ ∀ a ∈ needsF fo so k, lev fo so a < t := by
  have hk : ((k.toNat : Nat) : Int) = k := Int.toNat_of_nonneg h0
  have e : lev fo so k = lenAt (lensTo fo so k.toNat) (needsF fo so k) := by
    have := lens_get fo so 12 k.toNat (by exact ar247 h1)
    rw [hk] at this; exact this
  have ea : ∀ a ∈ needsF fo so k, (lensTo fo so k.toNat).getD a.toNat 0 = lev fo so a := fun a ha => by
    have hb := needs_lt (so := so) hf h0 a ha
    rw [lens_get fo so _ _ (by exact ar248 hb)]
    exact (lens_get fo so 12 a.toNat (by exact ar249 h1 hb)).symm
  rw [e]
  unfold lenAt
  constructor
  · intro h
    have h2 := le_foldl_max (0 :: (needsF fo so k).map fun a => 1 + (lensTo fo so k.toNat).getD a.toNat 0) 0
    refine ⟨Int.le_trans (h2.2 0 (.head _)) h, fun a ha => ?_⟩
    have := h2.2 (1 + (lensTo fo so k.toNat).getD a.toNat 0) (.tail _ (List.mem_map.mpr ⟨a, ha, rfl⟩))
    rw [ea a ha] at this
    exact ar250 h this
  · rintro ⟨ht, h⟩
    refine foldl_max_le _ 0 t ht fun b hb => ?_
    rcases List.mem_cons.mp hb with rfl | hb
    · exact ht
    · obtain ⟨a, ha, rfl⟩ := List.mem_map.mp hb
      have := h a ha
      rw [ea a ha]; exact ar251 this
theorem lev_pos (hf : ∀ ks, fo = some ks → 0 ∈ ks) {k : Int} (h0 : 0 ≤ k) (h1 : k ≤ 11) : 0 ≤ lev fo so k :=
  ((lev_le (so := so) hf h0 h1 (lev fo so k)).mp (Int.le_refl _)).1
theorem graph_K (hf : ∀ ks, fo = some ks → 0 ∈ ks) (x : Int) : x ∈ (graphOf fo so).map (·.1) ↔ 0 ≤ x ∧ x ≤ 11 := by
  have := graph_mem (nd := needsF fo so) (fun p hp => needs_lt hf hp) 12 x (Nat.le_refl _)
  exact ⟨this.2, fun h => this.1 (by exact ar252 h)⟩
theorem graph_cnt (hf : ∀ ks, fo = some ks → 0 ∈ ks) {k s : Int} : (scOf (graphOf fo so) k).count s = if s ∈ (graphOf fo so).map (·.1) then (needsF fo so s).count k else 0 := by
  rw [show (scOf (graphOf fo so) k).count s = _ from graph_sc (nd := needsF fo so) 12 k s]
  by_cases h : s ∈ (graphOf fo so).map (·.1)
  · rw [if_pos h, if_pos (by have := (graph_K hf s).mp h; exact ar252 this)]
  · rw [if_neg h, if_neg (fun q => h ((graph_K hf s).mpr (by exact ar253 q)))]
theorem graph_up (hf : ∀ ks, fo = some ks → 0 ∈ ks) {k s : Int} (h : s ∈ scOf (graphOf fo so) k) : s ∈ (graphOf fo so).map (·.1) ∧ k ∈ needsF fo so s := by
  have h1 : 0 < (scOf (graphOf fo so) k).count s := List.count_pos_iff.mpr h
  rw [graph_cnt hf] at h1
  split at h1
  · rename_i q; exact ⟨q, List.count_pos_iff.mp h1⟩
  · omega
theorem graph_Gr (hf : ∀ ks, fo = some ks → 0 ∈ ks) : Gr ((graphOf fo so).map (·.1)) (needsF fo so) (scOf (graphOf fo so)) where
  knd := graph_nd 12
  pos := fun k hk => ((graph_K hf k).mp hk).1
  cnt := fun k s hs => by rw [graph_cnt hf, if_pos hs]
  scK := fun k s hs => (graph_up hf hs).1
  ndK := fun s hs a ha => by
    have h1 := (graph_K hf s).mp hs
    have h2 := needs_lt (so := so) hf h1.1 a ha
    exact ⟨(graph_K hf a).mpr (by exact ar254 h1 h2), h2.2⟩
  scl := fun k => by
    unfold scOf
    rcases find_cases (graphOf fo so) k with ⟨h, _⟩ | ⟨e, h, _, he, _⟩
    · rw [h]; simp
    · rw [h]; have := graph_sn fo so 12 e he; show e.2.2.length ≤ 100; exact ar255 this
  kl := by rw [List.length_map]; have : (graphOf fo so).length ≤ 3 * 12 := graph_len fo so 12; exact ar256 this
theorem graph_start (hf : ∀ ks, fo = some ks → 0 ∈ ks) : Mid ((graphOf fo so).map (·.1)) (needsF fo so) (scOf (graphOf fo so)) (graphOf fo so) (readyC (graphOf fo so)) [] [] where
  keys := rfl
  sc := fun _ => rfl
  out := fun _ q => nomatch q
  rest := fun k hk _ _ => by
    have hb := (graph_K hf k).mp hk
    rw [show npOf (graphOf fo so) k = _ from graph_np (nd := needsF fo so) 12 k, if_pos (by exact ar252 hb), List.filter_eq_self.mpr (fun a _ => by simp)]
  rnd := by
    unfold readyC
    exact List.Nodup.sublist (List.filter_sublist.map _) (graph_nd (nd := needsF fo so) 12)
  rm := fun k => by
    have hnd : ((graphOf fo so).map (·.1)).Nodup := graph_nd (nd := needsF fo so) 12
    have np : ∀ k, k ∈ (graphOf fo so).map (·.1) → npOf (graphOf fo so) k = (needsF fo so k).length := fun k hk => by
      have hb := (graph_K hf k).mp hk
      rw [show npOf (graphOf fo so) k = _ from graph_np (nd := needsF fo so) 12 k, if_pos (by exact ar252 hb)]
    constructor
    · intro h
      obtain ⟨e, he, rfl⟩ := List.mem_map.mp h
      obtain ⟨he, hz⟩ := List.mem_filter.mp he
      have hK : e.1 ∈ (graphOf fo so).map (·.1) := List.mem_map_of_mem he
      have h1 := np_self hnd e he
      rw [np _ hK] at h1
      have hz : e.2.1 = 0 := by simpa using hz
      have : needsF fo so e.1 = [] := List.eq_nil_of_length_eq_zero (by exact ar257 h1 hz)
      exact ⟨hK, by simp, by simp, fun a ha => by rw [this] at ha; cases ha⟩
    · rintro ⟨hK, _, _, h⟩
      obtain ⟨e, he, rfl⟩ := List.mem_map.mp hK
      have : needsF fo so e.1 = [] := List.eq_nil_iff_forall_not_mem.mpr fun a ha => nomatch h a ha
      have h1 := np_self hnd e he
      rw [np _ hK, this] at h1
      unfold readyC
      exact List.mem_map_of_mem (List.mem_filter.mpr ⟨he, by rw [← h1]; rfl⟩)
end
end Mine

namespace Mine
/-- what is told behind the sum c, at most f cuts -/
def outL (c : Int) (last : Option Int) : List Int → Nat → List Int
  | _, 0 => []
  | [], _ + 1 => []
  | r :: rs, f + 1 => if r = 127 then [] else if r = 0 then (match last with | none => [] | some l => (List.range (f + 1)).map fun (i : Nat) => c + l * (1 + (i : Int))) else (c + r) :: outL (c + r) (some r) rs f
theorem last_snoc (cuts : List Int) (x : Int) : (cuts ++ [x]).getD ((cuts ++ [x]).length - 1) 0 = x := by
  rw [List.length_append, List.length_singleton, Nat.add_sub_cancel, List.getD_eq_getElem?_getD]; simp
theorem told_rep {row : List Int} {l : Int} : ∀ (f j : Nat) (cuts : List Int) (c : Int), (∀ i, j ≤ i → gi none row i = .item l) → cuts.getD (cuts.length - 1) 0 = c →
    toldGo row f j cuts = cuts ++ (List.range f).map fun (i : Nat) => c + l * (1 + (i : Int))
  | 0, j, cuts, c, _, _ => by simp [toldGo]
  | f + 1, j, cuts, c, h, hc => by
    unfold toldGo
    rw [h j (Nat.le_refl _)]
    simp only []
    rw [told_rep f (j + 1) _ (c + l) (fun i hi => h i (by exact ar239 hi)) (by rw [hc]; exact last_snoc _ _), List.range_succ_eq_map, List.map_cons, List.append_assoc, List.map_map, hc]
    have e : (List.range f).map (fun (i : Nat) => c + l + l * (1 + (i : Int))) = (List.range f).map ((fun (i : Nat) => c + l * (1 + (i : Int))) ∘ Nat.succ) := by
      refine List.map_congr_left fun i _ => ?_
      simp only [Function.comp_def]
      have : ((i.succ : Nat) : Int) = (i : Int) + 1 := by exact ar240
      rw [this]
      simp only [Int.mul_add, Int.mul_one]
      exact ar241
    rw [e]; simp
theorem told_out {row : List Int} : ∀ (rs : List Int) (f j : Nat) (cuts : List Int) (c : Int) (last : Option Int), (∀ i, gi none row (j + i) = gi last rs i) → cuts.getD (cuts.length - 1) 0 = c →
    toldGo row f j cuts = cuts ++ outL c last rs f
  | rs, 0, j, cuts, c, last, _, _ => by simp [toldGo, outL]
  | [], f + 1, j, cuts, c, last, h, hc => by
    have h0 := h 0
    simp only [Nat.add_zero] at h0
    unfold toldGo
    rw [h0]; simp [gi, outL]
  | r :: rs, f + 1, j, cuts, c, last, h, hc => by
    have h0 := h 0
    simp only [Nat.add_zero] at h0
    by_cases h1 : r = 127
    · unfold toldGo
      rw [h0]; simp [gi, outL, h1]
    · by_cases h2 : r = 0
      · cases last with
        | none =>
          unfold toldGo
          rw [h0]; simp [gi, outL, h2]
        | some l =>
          rw [told_rep (l := l) (f + 1) j cuts c (fun i hi => by
            have := h (i - j)
            rw [show j + (i - j) = i by exact ar242 hi] at this
            rw [this]; simp [gi, h2]) hc]
          simp [outL, h2]
      · unfold toldGo
        rw [h0]
        simp only [gi, h1, h2, if_false]
        rw [told_out rs f (j + 1) _ (c + r) (some r) (fun i => by
          have := h (i + 1)
          rw [show j + 1 + i = j + (i + 1) by exact ar207, this]
          simp [gi, h1, h2]) (by rw [hc]; exact last_snoc _ _), hc]
        simp [outL, h1, h2]
/-- the cuts due behind the sum c -/
def dueL (c : Int) (last : Int) (rs : List Int) : List Int :=
  ((List.range ((sizesF (heardF rs)).length + 1)).map fun k => c + ((sizesF (heardF rs)).take k).sum) ++ (if (0 : Int) ∈ heardF rs then (List.range 12).map fun (i : Nat) => c + (sizesF (heardF rs)).sum + (if sizesF (heardF rs) = [] then last else (sizesF (heardF rs)).getD ((sizesF (heardF rs)).length - 1) 0) * (1 + (i : Int)) else [])
theorem heard_127 (rs : List Int) : heardF (127 :: rs) = [] := by
  unfold heardF; rw [if_pos (.head _)]; simp
theorem heard_cons {r : Int} (h : r ≠ 127) (rs : List Int) : heardF (r :: rs) = r :: heardF rs := by
  unfold heardF
  by_cases q : (127 : Int) ∈ rs
  · rw [if_pos (.tail _ q), if_pos q, List.idxOf_cons, show (r == 127) = false by simp [h]]; rfl
  · rw [if_neg (fun z => (List.mem_cons.mp z).elim (fun e => h e.symm) q), if_neg q]
theorem sizes_0 (rs : List Int) : sizesF (0 :: rs) = [] := by
  unfold sizesF; rw [if_pos (.head _)]; simp
theorem sizes_cons {r : Int} (h : r ≠ 0) (rs : List Int) : sizesF (r :: rs) = r :: sizesF rs := by
  unfold sizesF
  by_cases q : (0 : Int) ∈ rs
  · rw [if_pos (.tail _ q), if_pos q, List.idxOf_cons, show (r == 0) = false by simp [h]]; rfl
  · rw [if_neg (fun z => (List.mem_cons.mp z).elim (fun e => h e.symm) q), if_neg q]
theorem due_out : ∀ (rs : List Int) (c : Int) (last : Option Int) (f : Nat), f ≤ 12 → (rs.take 1 = [0] → last ≠ none) → (dueL c (last.getD 0) rs).take (f + 1) = c :: outL c last rs f
  | rs, c, last, 0, _, _ => by
    unfold dueL
    rw [List.range_succ_eq_map]; simp [outL]
  | [], c, last, f + 1, hf, _ => by simp [dueL, outL, heardF, sizesF]
  | r :: rs, c, last, f + 1, hf, hl => by
    by_cases h1 : r = 127
    · subst h1
      unfold dueL
      rw [heard_127]; simp [outL, sizesF]
    · by_cases h2 : r = 0
      · subst h2
        cases last with
        | none => exact absurd rfl (hl rfl)
        | some l =>
          unfold dueL
          rw [heard_cons h1, sizes_0]
          simp only [List.length_nil, List.mem_cons, true_or, if_true, Option.getD_some, outL, h1, if_false]
          simp [← List.map_take, List.take_range, Nat.min_eq_left hf]
      · have ih := due_out rs (c + r) (some r) f (by exact ar213 hf) (fun _ => by simp)
        have e : dueL c (last.getD 0) (r :: rs) = c :: dueL (c + r) r rs := by
          unfold dueL
          rw [heard_cons h1, sizes_cons h2, List.length_cons, List.range_succ_eq_map, List.map_cons, List.map_map]
          have m : ((0 : Int) ∈ r :: heardF rs) ↔ (0 : Int) ∈ heardF rs := ⟨fun q => (List.mem_cons.mp q).resolve_left fun e => h2 e.symm, .tail _⟩
          have e1 : (List.range ((sizesF (heardF rs)).length + 1)).map ((fun k => c + ((r :: sizesF (heardF rs)).take k).sum) ∘ Nat.succ) = (List.range ((sizesF (heardF rs)).length + 1)).map fun k => c + r + ((sizesF (heardF rs)).take k).sum := by
            refine List.map_congr_left fun k _ => ?_
            simp only [Function.comp_def, List.take_succ_cons, List.sum_cons]; exact ar243
          have e2 : (if r :: sizesF (heardF rs) = [] then last.getD 0 else (r :: sizesF (heardF rs)).getD ((sizesF (heardF rs)).length + 1 - 1) 0) = (if sizesF (heardF rs) = [] then r else (sizesF (heardF rs)).getD ((sizesF (heardF rs)).length - 1) 0) := by
            rw [if_neg (by simp)]
            cases sizesF (heardF rs) with
            | nil => simp
            | cons a l => simp
          rw [e1, e2]
          simp only [m, List.take_zero, List.sum_nil, Int.add_zero, List.sum_cons, List.cons_append, Int.add_assoc]
        rw [show (some r).getD (0 : Int) = r from rfl] at ih
        rw [e, List.take_succ_cons, ih]
        simp [outL, h1, h2]
theorem told_due (row : List Int) : toldF row = dueF row := by
  unfold dueF
  by_cases h : row.take 1 = [0]
  · rw [if_pos h]
    unfold toldF
    cases row with
    | nil => simp at h
    | cons r rs =>
      have : r = 0 := by simpa using h
      subst this
      simp [gi]
  · rw [if_neg h]
    have ne : gi none row 0 ≠ .err := by
      cases row with
      | nil => simp [gi]
      | cons r rs =>
        have : r ≠ 0 := fun e => h (by subst e; rfl)
        by_cases h1 : r = 127 <;> simp [gi, this, h1]
    have e : toldF row = some (toldGo row 12 0 [0]) := by
      unfold toldF
      split
      · rename_i q; exact absurd q ne
      · rfl
    rw [e, told_out row 12 0 [0] 0 none (fun i => by rw [Nat.zero_add]) rfl]
    have d := due_out row 0 none 12 (Nat.le_refl _) (fun q => absurd q h)
    rw [List.singleton_append, ← d]
    unfold dueL cuts1 cuts2
    congr 3
    · refine List.map_congr_left fun k _ => ?_
      simp
    · have e2 : (if sizesF (heardF row) = [] then (none : Option Int).getD 0 else (sizesF (heardF row)).getD ((sizesF (heardF row)).length - 1) 0) = (sizesF (heardF row)).getD ((sizesF (heardF row)).length - 1) 0 := by
        split
        · rename_i q; rw [q]; rfl
        · rfl
      rw [e2]
      simp only [Int.zero_add]
theorem toldGo_mem {row : List Int} {x : Int} : ∀ (f j : Nat) (cuts : List Int), x ∈ cuts → x ∈ toldGo row f j cuts
  | 0, j, cuts, h => by simpa [toldGo] using h
  | f + 1, j, cuts, h => by
    unfold toldGo
    split
    · exact toldGo_mem f (j + 1) _ (List.mem_append_left _ h)
    · exact h
theorem told_zero {row ks : List Int} (h : toldF row = some ks) : 0 ∈ ks := by
  unfold toldF at h
  split at h
  · cases h
  · cases h; exact toldGo_mem 12 0 [0] (.head _)
theorem map_told_zero {l : List Int} {j : Nat} {ks : List Int} (h : (l.map fun k => toldF (rowF k)).getD j none = some ks) : 0 ∈ ks := by
  rw [List.getD_eq_getElem?_getD, List.getElem?_map] at h
  cases e : l[j]? with
  | none => rw [e] at h; cases h
  | some k => rw [e] at h; exact told_zero (row := rowF k) h
theorem places_nd : places.Nodup := by decide
theorem places_iff (k : Int) : k ∈ places ↔ 0 ≤ k ∧ k ≤ 11 := by
  refine ⟨places_mem, fun h => ?_⟩
  unfold places
  exact List.mem_map.mpr ⟨k.toNat, List.mem_range.mpr (by exact ar74 h), Int.toNat_of_nonneg h.1⟩
theorem sheet_of {fo so : Option (List Int)} (hf : ∀ ks, fo = some ks → 0 ∈ ks) (hs : ∀ ks, so = some ks → 0 ∈ ks) : Sheet fo so where
  f0 := hf
  s0 := hs
  run := by
    obtain ⟨gs, h1, h2, h3, h4⟩ := run_ex (lev := lev fo so) (graph_Gr (so := so) hf) (fun k hk t ht => by
        have hb := (graph_K hf k).mp hk
        rw [lev_le hf hb.1 hb.2]
        exact ⟨fun h => h.2, fun h => ⟨ht, h⟩⟩) (fun k hk => by
        have hb := (graph_K hf k).mp hk
        exact lev_pos hf hb.1 hb.2) _ 0 _ _ [] (Nat.le_refl _) (Int.le_refl _) (graph_start hf) (fun k => ⟨fun q => (nomatch q), fun q => by
        have hb := (graph_K hf k).mp q.1
        have := lev_pos (so := so) hf hb.1 hb.2
        omega⟩)
    refine ⟨gs, h1, fun e he p hp => ?_, ?_, h4⟩
    · have hnd : ((graphOf fo so).map (·.1)).Nodup := graph_nd (nd := needsF fo so) 12
      rw [← sc_self hnd e he] at hp
      obtain ⟨a1, a2⟩ := graph_up hf hp
      have hb := (graph_K hf p).mp a1
      exact ⟨(needs_lt (so := so) hf hb.1 _ a2).2, a1⟩
    · rw [List.perm_ext_iff_of_nodup h2 places_nd]
      intro k
      rw [h3, places_iff, graph_K hf]
      simp
theorem sizes_bound (n : Nat) : 0 ≤ sizesL.getD n 0 ∧ sizesL.getD n 0 ≤ 127 := by
  by_cases h : n < 6
  · have : ∀ n, n < 6 → 0 ≤ sizesL.getD n 0 ∧ sizesL.getD n 0 ≤ 127 := by decide
    exact this n h
  · rw [List.getD_eq_getElem?_getD, List.getElem?_eq_none (by show 6 ≤ n; exact ar244 h)]
    decide
theorem plain_of (ks : List Int) : Plain ks where
  told := fun k _ => told_due _
  rows := fun f k hk => by
    unfold rowF at hk
    obtain ⟨b, _, rfl⟩ := List.mem_map.mp (List.mem_of_mem_take hk)
    exact sizes_bound _
  sheet := fun i hi => sheet_of (fun ks h => map_told_zero h) (fun ks h => map_told_zero h)
end Mine

theorem PySem.Challenge.cw_mr0287_01_holds : PySem.Challenge.rw_mr0287_01.Holds := by
  refine hd ?_
  intro w s₀ s₁ mg mb G Y fa o pm cd doc dV kV ho hd1 hcd hD hmg hgens args vals as hpre hlay hrd hwl hlo
  have KX := kIn_of Y
  have T := G.T
  have hfa : fa = 180 := by
    have e := mg_of (K := Mine.Kf w) KX T.g (n := "law") (v := .ref 180) (by with_unfolding_all rfl)
    have e2 := hmg.symm.trans e
    cases e2; rfl
  subst hfa
  have Gd1 : Mine.Gd w mg mb s₁.heap := ⟨KX, T.g, T.b, T.builtins, T.nolimit⟩
  wrow_args hpre hlay hrd hwl hlo
  rename_i ks hs1 hlay0 hlay1 hr1 hl2 as1 as2 sa vs as3 hL ra w1 r0 hI hr hc1 hc2
  have hbig : 181 ≤ s₁.heap.objs.size := Heap.lt_size ho
  refine wpAny_call (Mine.law_spec (A := callerA) (ks := ks) Gd1 rfl (by decide) (by decide) rfl hbig hL hI (by omega) (Mine.plain_of ks) ?_)
  intro h' tk gn hk hb
  refine ⟨.inl ⟨.bool true, .bool true, [], rfl, fun cls => ?_, .bool true, ?_, fun _ => ⟨.nil, fun _ q => nomatch q⟩⟩, .of_keep hk, rfl, ?_⟩
  · rfl
  · first | rfl | wrow_post
  · exact hb (by rw [hgens]; intro x hx; simp at hx)
