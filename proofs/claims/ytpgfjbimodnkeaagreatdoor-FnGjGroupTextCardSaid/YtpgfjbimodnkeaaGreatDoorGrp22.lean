/- FnGjGroupText: whatever text comes in, the law returns true and the text reads afterwards as before; with the fourteen package-level variables that its row lists as the text of the program lays them (the tied card) (part 22 of 33: lemmas for its last part) -/
import Derived.WalkSpells
import Derived.Deep.Cut
import Derived.Test.YtpgfjbimodnkeaaGreatDoorGrp18
set_option maxHeartbeats 16000000
set_option maxRecDepth 100000
set_option linter.unusedVariables false
set_option linter.unusedSimpArgs false
