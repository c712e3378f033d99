/- Short names for the printed functions. -/
import Derived.Test.YtpefmbpjanafkaaGreatDoorSnT
set_option linter.unusedVariables false
set_option linter.unusedSimpArgs false
namespace Go.AM
abbrev RunT := FuncId → List AV → Store → Tr R
abbrev W0 := Store → Tr R
abbrev W1 := AV → W0
abbrev W2 := AV → W1
abbrev W3 := AV → W2
abbrev W4 := AV → W3
abbrev W5 := AV → W4
abbrev W6 := AV → W5
abbrev W7 := AV → W6
abbrev W8 := AV → W7
abbrev W9 := AV → W8
abbrev W10 := AV → W9
abbrev W11 := AV → W10
abbrev W12 := AV → W11
abbrev W13 := AV → W12
abbrev W14 := AV → W13
abbrev W15 := AV → W14
abbrev W16 := AV → W15
abbrev W17 := AV → W16
abbrev W18 := AV → W17
/-- A slot. -/
abbrev G (l : List AV) (i : Nat) : AV := l.getD i .any
end Go.AM
