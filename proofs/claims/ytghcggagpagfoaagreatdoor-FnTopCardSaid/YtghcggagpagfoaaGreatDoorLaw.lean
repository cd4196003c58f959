/-
  The law's walk (n001_1001 FnTop): the reader's contract at every depth, joined with the law's walk.
-/
import Derived.Test.YtghcggagpagfoaaGreatDoorDdB
import Derived.Test.YtghcggagpagfoaaGreatDoorDdC
import Derived.Test.YtghcggagpagfoaaGreatDoorDdD
import Derived.Test.YtghcggagpagfoaaGreatDoorDdF
import Derived.Test.YtghcggagpagfoaaGreatDoorDdG
import Derived.Test.YtghcggagpagfoaaGreatDoorDdH
import Derived.Test.YtghcggagpagfoaaGreatDoorDdI
import Derived.Test.YtghcggagpagfoaaGreatDoorDdJ
import Derived.Test.YtghcggagpagfoaaGreatDoorDdK
import Derived.Test.YtghcggagpagfoaaGreatDoorDdL
import Derived.Test.YtghcggagpagfoaaGreatDoorLawB
namespace Go.Proofs.YtghcggagpagfoaaGreatDoor
open Go.ChangeShapes Go.WideShapes Go.ChangeAt Go.RowKit M
theorem dTM (m : Nat) (IHQ : ∀ k, k < m → DC 4 .q 300 (8 * k + 8) k) (IHT : ∀ k, k < m → DC 11 .t 200 (8 * k + 8) k) (IHP : ∀ k, k < m → DC 12 .pt 200 (8 * k + 8) k) (IHX : ∀ k, k < m → DC 31 .ix 1800 (8 * k + 11) k) (IHO : ∀ k, k < m → DO k) (IHS : ∀ k, k < m → DC 34 .st 1700 (8 * k + 10) k) (IHI : ∀ k, k < m → DC 35 .ife 800 (8 * k + 10) k) (IHF : ∀ k, k < m → DC 36 .sf 2000 (8 * k + 12) k) : DC 11 .t 200 (8 * m + 8) m := by
  intro w rb a len cap z i d h hl hd hd2
  rcases (show (0 ≤ b1 z i % 20 ∧ b1 z i % 20 ≤ 6) ∨ (7 ≤ b1 z i % 20 ∧ b1 z i % 20 ≤ 9) ∨ (10 ≤ b1 z i % 20 ∧ b1 z i % 20 ≤ 11) ∨ (12 ≤ b1 z i % 20 ∧ b1 z i % 20 ≤ 14) ∨ (15 ≤ b1 z i % 20 ∧ b1 z i % 20 ≤ 16) ∨ (17 ≤ b1 z i % 20 ∧ b1 z i % 20 ≤ 19) by omega) with g | g | g | g | g | g
  · exact dTMa m IHQ IHT IHP IHX IHO IHS IHI IHF w rb a len cap z i d h hl hd hd2 g
  · exact dTMb m IHQ IHT IHP IHX IHO IHS IHI IHF w rb a len cap z i d h hl hd hd2 g
  · exact dTMc m IHQ IHT IHP IHX IHO IHS IHI IHF w rb a len cap z i d h hl hd hd2 g
  · exact dTMd m IHQ IHT IHP IHX IHO IHS IHI IHF w rb a len cap z i d h hl hd hd2 g
  · exact dTMe m IHQ IHT IHP IHX IHO IHS IHI IHF w rb a len cap z i d h hl hd hd2 g
  · exact dTMf m IHQ IHT IHP IHX IHO IHS IHI IHF w rb a len cap z i d h hl hd hd2 g
structure AD (m : Nat) : Prop where
  q : DC 4 .q 300 (8 * m + 8) m
  t : DC 11 .t 200 (8 * m + 8) m
  pt : DC 12 .pt 200 (8 * m + 8) m
  co : DC 14 .co 100 (8 * m + 8) m
  ct : DC 39 .ct 1700 (8 * m + 8) m
  st : DC 34 .st 1700 (8 * m + 10) m
theorem AD.br {m : Nat} (h : AD m) : DC 64 .ix 800 (8 * m + 9) m := dBR m h.q
theorem allD (m : Nat) : AD m := by
  induction m using Nat.strongRecOn with
  | ind m ih =>
    exact ⟨dQ m (fun k h => (ih k h).q) (fun k h => (ih k h).t) (fun k h => (ih k h).pt) (fun k h => dFD k (ih k h).q) (fun k h => dIM k (ih k h).co) (fun k h => (ih k h).co),
      dTM m (fun k h => (ih k h).q) (fun k h => (ih k h).t) (fun k h => (ih k h).pt) (fun k h => dIX k (ih k h).st (ih k h).br) (fun k h => dOB k (ih k h).q (ih k h).st) (fun k h => (ih k h).st) (fun k h => dIFE k (ih k h).q) (fun k h => dSF k (ih k h).st (ih k h).br),
      dPT m (fun k h => (ih k h).pt) (fun k h => dPO k (ih k h).q (ih k h).st (ih k h).pt), dCO m (fun k h => (ih k h).ct), dCT m (fun k h => (ih k h).co) (fun k h => (ih k h).ct), dST m (fun k h => (ih k h).t)⟩
theorem fnTop.walk (a0 : Option Addr) (len0 cap0 : Nat) (z0 : List Int) (w : World) (hE : Env w.heap.size w) (w0 : SliceOf 1 (IsInt .u8) w a0 len0 z0) :
    Calls Tryz.prog 3 #[.slice a0 len0 cap0] w fun e w' => e = .returned (.bool true) ∧ Below w.heap.size w w' := lawW (allD 40).q a0 len0 cap0 z0 w hE w0
end Go.Proofs.YtghcggagpagfoaaGreatDoor
