/-
  The walk of laws.FnWindow and its plain law, joined.
-/
import Derived.Test.YtppfldobgemddaaDoorFt
import Derived.Test.YtppfldobgemddaaDoorFv
import Derived.Test.YtppfldobgemddaaDoorIn
namespace Go.Proofs.YtppfldobgemddaaDoor
open Go.RowKit
set_option linter.unusedVariables false

theorem bounds_i8 {n : Int} (h : (Lit.int .i8 n).wf = true) : -128 ≤ n ∧ n ≤ 127 := by
  simp [Lit.wf] at h
  have h1 : IntKind.i8.min = -128 := by decide
  have h2 : IntKind.i8.max = 127 := by decide
  omega
def vOf (n : Nat) (zs : List Int) (k : Nat) : Int := if n = 0 then 8 * ((k % 5 : Nat) : Int) - 16 else zs.getD (k % n) 0
theorem vAt_of {w : World} {a : Option Addr} {len cap : Nat} {zs : List Int} (h : IsRowP .i8 w a len cap zs) : VAt w a len (vOf len zs) := by
  intro k hk
  by_cases h0 : len = 0
  · have e : vOf len zs k = 8 * ((k % 5 : Nat) : Int) - 16 := by unfold vOf; rw [if_pos h0]
    rw [e]
    exact ⟨by omega, by omega, .inl ⟨h0, rfl⟩⟩
  · have e : vOf len zs k = zs.getD (k % len) 0 := by unfold vOf; rw [if_neg h0]
    rw [e]
    have hm : k % len < len := Nat.mod_lt _ (by omega)
    rcases h with ⟨_, h, _⟩ | ⟨x, rfl, hlc, hc, hz, hcell, hwz⟩
    · exact absurd h h0
    · have hlt : k % len < zs.length := by omega
      have hmem : zs.getD (k % len) 0 ∈ zs := by
        rw [List.getD_eq_getElem?_getD, List.getElem?_eq_getElem hlt]; exact List.getElem_mem _
      obtain ⟨b0, b1⟩ := bounds_i8 (hwz _ hmem)
      have hc1 := hcell (k % len) hlt
      obtain ⟨b, off, spot⟩ := x
      have hspot : spot = none := by
        have h1 := hcell 0 (by omega)
        simpa [Addr.add] using World.cell?_spot h1
      subst hspot
      have hadd : ∀ j, (⟨b, off, none⟩ : Addr).add j = ⟨b, off + j, none⟩ := fun j => by unfold Addr.add; split <;> simp_all
      rw [hadd] at hc1
      exact ⟨b0, b1, .inr ⟨by omega, b, off, rfl, block_lt_of_cell hc1, hc1⟩⟩
theorem fnWindow_walk (a0 : Option Addr) (len0 cap0 : Nat) (z0 : List Int) (a1 : Int) (w : World) (w0 : IsRowP .i8 w a0 len0 cap0 z0) (w1 : (Lit.int .u8 a1).wf = true) (hT : Tabs w) :
    Calls Tryd.prog 6 #[.slice a0 len0 cap0, .int .u8 a1] w fun e w' => e = .returned (.bool true) ∧ Below w.heap.size w w' := by
  by_cases hbig : 2147483647 < len0
  · exact fnWindow_big a0 len0 cap0 hbig a1 w
  · obtain ⟨h0, h1⟩ := bounds_u8 w1
    have hV := vAt_of w0
    exact fnWindow_main a0 len0 cap0 (by omega) a1 (a1 % 4).toNat (by omega) h0 h1 (vOf len0 z0) w hV hT (law_at _ (fun k hk => ⟨(hV k hk).1, (hV k hk).2.1⟩) _ (by omega))
end Go.Proofs.YtppfldobgemddaaDoor
