/- The parts of an hour as floats, each of the 3600 computed. No conditions. -/
import Derived.Test.YtlfbmjgmdcfbkaaDoorFlt
namespace Go.Proofs.YtlfbmjgmdcfbkaaDoor
theorem okH0 : ((List.range 200).all fun s => okQ 4794699203894837248 ((0 + s) * 1000000000)) = true := by decide +kernel
theorem okH1 : ((List.range 200).all fun s => okQ 4794699203894837248 ((200 + s) * 1000000000)) = true := by decide +kernel
theorem okH2 : ((List.range 200).all fun s => okQ 4794699203894837248 ((400 + s) * 1000000000)) = true := by decide +kernel
theorem okH3 : ((List.range 200).all fun s => okQ 4794699203894837248 ((600 + s) * 1000000000)) = true := by decide +kernel
theorem okH4 : ((List.range 200).all fun s => okQ 4794699203894837248 ((800 + s) * 1000000000)) = true := by decide +kernel
theorem okH5 : ((List.range 200).all fun s => okQ 4794699203894837248 ((1000 + s) * 1000000000)) = true := by decide +kernel
theorem okH6 : ((List.range 200).all fun s => okQ 4794699203894837248 ((1200 + s) * 1000000000)) = true := by decide +kernel
theorem okH7 : ((List.range 200).all fun s => okQ 4794699203894837248 ((1400 + s) * 1000000000)) = true := by decide +kernel
theorem okH8 : ((List.range 200).all fun s => okQ 4794699203894837248 ((1600 + s) * 1000000000)) = true := by decide +kernel
theorem okH9 : ((List.range 200).all fun s => okQ 4794699203894837248 ((1800 + s) * 1000000000)) = true := by decide +kernel
theorem okH10 : ((List.range 200).all fun s => okQ 4794699203894837248 ((2000 + s) * 1000000000)) = true := by decide +kernel
theorem okH11 : ((List.range 200).all fun s => okQ 4794699203894837248 ((2200 + s) * 1000000000)) = true := by decide +kernel
theorem okH12 : ((List.range 200).all fun s => okQ 4794699203894837248 ((2400 + s) * 1000000000)) = true := by decide +kernel
theorem okH13 : ((List.range 200).all fun s => okQ 4794699203894837248 ((2600 + s) * 1000000000)) = true := by decide +kernel
theorem okH14 : ((List.range 200).all fun s => okQ 4794699203894837248 ((2800 + s) * 1000000000)) = true := by decide +kernel
theorem okH15 : ((List.range 200).all fun s => okQ 4794699203894837248 ((3000 + s) * 1000000000)) = true := by decide +kernel
theorem okH16 : ((List.range 200).all fun s => okQ 4794699203894837248 ((3200 + s) * 1000000000)) = true := by decide +kernel
theorem okH17 : ((List.range 200).all fun s => okQ 4794699203894837248 ((3400 + s) * 1000000000)) = true := by decide +kernel
theorem okQ_hour (s : Nat) (h : s < 3600) : okQ 4794699203894837248 (s * 1000000000) = true := by
  have hm : s % 200 < 200 := Nat.mod_lt _ (by omega)
  have hq : s / 200 = 0 ∨ s / 200 = 1 ∨ s / 200 = 2 ∨ s / 200 = 3 ∨ s / 200 = 4 ∨ s / 200 = 5 ∨ s / 200 = 6 ∨ s / 200 = 7 ∨ s / 200 = 8 ∨ s / 200 = 9 ∨ s / 200 = 10 ∨ s / 200 = 11 ∨ s / 200 = 12 ∨ s / 200 = 13 ∨ s / 200 = 14 ∨ s / 200 = 15 ∨ s / 200 = 16 ∨ s / 200 = 17 := by omega
  rcases hq with e | e | e | e | e | e | e | e | e | e | e | e | e | e | e | e | e | e
  · have := List.all_eq_true.1 okH0 (s % 200) (List.mem_range.2 hm)
    rwa [show 0 + s % 200 = s by omega] at this
  · have := List.all_eq_true.1 okH1 (s % 200) (List.mem_range.2 hm)
    rwa [show 200 + s % 200 = s by omega] at this
  · have := List.all_eq_true.1 okH2 (s % 200) (List.mem_range.2 hm)
    rwa [show 400 + s % 200 = s by omega] at this
  · have := List.all_eq_true.1 okH3 (s % 200) (List.mem_range.2 hm)
    rwa [show 600 + s % 200 = s by omega] at this
  · have := List.all_eq_true.1 okH4 (s % 200) (List.mem_range.2 hm)
    rwa [show 800 + s % 200 = s by omega] at this
  · have := List.all_eq_true.1 okH5 (s % 200) (List.mem_range.2 hm)
    rwa [show 1000 + s % 200 = s by omega] at this
  · have := List.all_eq_true.1 okH6 (s % 200) (List.mem_range.2 hm)
    rwa [show 1200 + s % 200 = s by omega] at this
  · have := List.all_eq_true.1 okH7 (s % 200) (List.mem_range.2 hm)
    rwa [show 1400 + s % 200 = s by omega] at this
  · have := List.all_eq_true.1 okH8 (s % 200) (List.mem_range.2 hm)
    rwa [show 1600 + s % 200 = s by omega] at this
  · have := List.all_eq_true.1 okH9 (s % 200) (List.mem_range.2 hm)
    rwa [show 1800 + s % 200 = s by omega] at this
  · have := List.all_eq_true.1 okH10 (s % 200) (List.mem_range.2 hm)
    rwa [show 2000 + s % 200 = s by omega] at this
  · have := List.all_eq_true.1 okH11 (s % 200) (List.mem_range.2 hm)
    rwa [show 2200 + s % 200 = s by omega] at this
  · have := List.all_eq_true.1 okH12 (s % 200) (List.mem_range.2 hm)
    rwa [show 2400 + s % 200 = s by omega] at this
  · have := List.all_eq_true.1 okH13 (s % 200) (List.mem_range.2 hm)
    rwa [show 2600 + s % 200 = s by omega] at this
  · have := List.all_eq_true.1 okH14 (s % 200) (List.mem_range.2 hm)
    rwa [show 2800 + s % 200 = s by omega] at this
  · have := List.all_eq_true.1 okH15 (s % 200) (List.mem_range.2 hm)
    rwa [show 3000 + s % 200 = s by omega] at this
  · have := List.all_eq_true.1 okH16 (s % 200) (List.mem_range.2 hm)
    rwa [show 3200 + s % 200 = s by omega] at this
  · have := List.all_eq_true.1 okH17 (s % 200) (List.mem_range.2 hm)
    rwa [show 3400 + s % 200 = s by omega] at this
end Go.Proofs.YtlfbmjgmdcfbkaaDoor
